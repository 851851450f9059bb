/-
  No cell of these rows narrows 'for every input' (looked for: loops, veiled, ifaces, maps, wideKeys, modest, calm, conditions, laid).
  DERIVED. THE GIVEN ROWS OF THIS SEAT. 3 by the template 'for every input the law returns true; each argument reads behind the call as it read before'; 0 by the template 'total and deterministic' (their statements: YbulkbucwTotals.lean).
  GIVEN WITH THE SEED: the statements are not yours to turn. If you find one false, say at which input.
  Laid BY PROGRAM, IN A SANDBOX (cutbox-rows.mjs): the forced cells as the released guide's own fill.sh prints them over the translation d4418cff30a4c28b… (all of the seat's roots in one cut). By AI agents, Wed Nov 11 2026. No macro, syntax, notation, axiom, sorry.
-/
import Derived.Test.YbulkbucwChecked
import GoSem.Claim
import GoSem.ClaimJoined
import GoSem.ClaimMapViews
import Derived.JoinedTies
import Derived.KernelRfl
namespace Go.Proofs.Ybulkbucw
/- THE CELL 'sum', in the pinned program and in every row, IS THE sha256 OF THE DUMP (.gsa) THAT YbulkbucwProg.lean LOADS. Nothing in Lean hashes anything: it is a label: what it is worth is what the hold of that sum in a sandbox is worth. -/
noncomputable def Yba.pinned : Pinned := { name := "ybulkbucw", sum := "d4418cff30a4c28b02844512d3c478008d494ec24b7ecc689eb1db3b7761735f", checked := Yba.checked }
namespace Rows
def none {H : Type} : Left H := { results := [], args := [] }

/-- 'xsdregexp.LawS3532BModel': WHATEVER THE INPUT: true; the input reads as it did. -/
def lawS3532BModelSpec : ChangeSpec := { name := "lawS3532BModel", fn := fun _ => fun
  | [d1, d2] => { results := [.lit (.bool true)], args := [d1, d2] }
  | _ => none }
def lawS3532BModelRow : OpenClaim := { program := "ybulkbucw", sum := "d4418cff30a4c28b02844512d3c478008d494ec24b7ecc689eb1db3b7761735f", func := "example.com/keyleaf/keyleaf/internal/xsdregexp.LawS3532BModel", spec := "lawS3532BModel", inPlace := ["internal/reflectlite.ValueOf", "internal/reflectlite.Swapper", "(internal/reflectlite.Value).Len"], unfollowed := true, recurses := true, apart := false }
def LawS3532BModelSaid : Prop := lawS3532BModelRow.holds Yba.pinned (OpenSpec.ofChange lawS3532BModelSpec)

/-- ITS FALSE NEIGHBOUR: 'it returns false'. Refute it at one input. -/
def lawS3532BModelWrong : ChangeSpec := { name := "lawS3532BModel", fn := fun _ => fun
  | [d1, d2] => { results := [.lit (.bool false)], args := [d1, d2] }
  | _ => none }
def LawS3532BModelWrongFalsely : Prop := lawS3532BModelRow.holds Yba.pinned (OpenSpec.ofChange lawS3532BModelWrong)

/-- 'xsdregexp.LawS3532BFixpoint': WHATEVER THE INPUT: true; the input reads as it did. -/
def lawS3532BFixpointSpec : ChangeSpec := { name := "lawS3532BFixpoint", fn := fun _ => fun
  | [d1, d2] => { results := [.lit (.bool true)], args := [d1, d2] }
  | _ => none }
def lawS3532BFixpointRow : OpenClaim := { program := "ybulkbucw", sum := "d4418cff30a4c28b02844512d3c478008d494ec24b7ecc689eb1db3b7761735f", func := "example.com/keyleaf/keyleaf/internal/xsdregexp.LawS3532BFixpoint", spec := "lawS3532BFixpoint", inPlace := ["internal/reflectlite.ValueOf", "internal/reflectlite.Swapper", "(internal/reflectlite.Value).Len"], unfollowed := true, recurses := true, apart := false }
def LawS3532BFixpointSaid : Prop := lawS3532BFixpointRow.holds Yba.pinned (OpenSpec.ofChange lawS3532BFixpointSpec)

/-- ITS FALSE NEIGHBOUR: 'it returns false'. Refute it at one input. -/
def lawS3532BFixpointWrong : ChangeSpec := { name := "lawS3532BFixpoint", fn := fun _ => fun
  | [d1, d2] => { results := [.lit (.bool false)], args := [d1, d2] }
  | _ => none }
def LawS3532BFixpointWrongFalsely : Prop := lawS3532BFixpointRow.holds Yba.pinned (OpenSpec.ofChange lawS3532BFixpointWrong)

/-- 'keyleaf.LawS3532CPostOrder': WHATEVER THE INPUT: true; the input reads as it did. -/
def lawS3532CPostOrderSpec : ChangeSpec := { name := "lawS3532CPostOrder", fn := fun _ => fun
  | [d1, d2] => { results := [.lit (.bool true)], args := [d1, d2] }
  | _ => none }
def lawS3532CPostOrderRow : OpenClaim := { program := "ybulkbucw", sum := "d4418cff30a4c28b02844512d3c478008d494ec24b7ecc689eb1db3b7761735f", func := "example.com/keyleaf/keyleaf.LawS3532CPostOrder", spec := "lawS3532CPostOrder", unfollowed := true, recurses := true, apart := false }
def LawS3532CPostOrderSaid : Prop := lawS3532CPostOrderRow.holds Yba.pinned (OpenSpec.ofChange lawS3532CPostOrderSpec)

/-- ITS FALSE NEIGHBOUR: 'it returns false'. Refute it at one input. -/
def lawS3532CPostOrderWrong : ChangeSpec := { name := "lawS3532CPostOrder", fn := fun _ => fun
  | [d1, d2] => { results := [.lit (.bool false)], args := [d1, d2] }
  | _ => none }
def LawS3532CPostOrderWrongFalsely : Prop := lawS3532CPostOrderRow.holds Yba.pinned (OpenSpec.ofChange lawS3532CPostOrderWrong)

end Rows
end Go.Proofs.Ybulkbucw
