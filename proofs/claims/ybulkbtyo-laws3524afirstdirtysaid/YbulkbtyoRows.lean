/-
  No cell of these rows narrows 'for every input' (looked for: loops, veiled, ifaces, maps, wideKeys, modest, calm, conditions, laid).
  DERIVED. THE GIVEN ROWS OF THIS SEAT. 3 by the template 'for every input the law returns true; each argument reads behind the call as it read before'; 0 by the template 'total and deterministic' (their statements: YbulkbtyoTotals.lean).
  GIVEN WITH THE SEED: the statements are not yours to turn. If you find one false, say at which input.
  Laid BY PROGRAM, IN A SANDBOX (cutbox-rows.mjs): the forced cells as the released guide's own fill.sh prints them over the translation 40ec1ed764547d17… (all of the seat's roots in one cut). By AI agents, Wed Nov 11 2026. No macro, syntax, notation, axiom, sorry.
-/
import Derived.Test.YbulkbtyoChecked
import GoSem.Claim
import GoSem.ClaimJoined
import GoSem.ClaimMapViews
import Derived.JoinedTies
import Derived.KernelRfl
namespace Go.Proofs.Ybulkbtyo
/- THE CELL 'sum', in the pinned program and in every row, IS THE sha256 OF THE DUMP (.gsa) THAT YbulkbtyoProg.lean LOADS. Nothing in Lean hashes anything: it is a label: what it is worth is what the hold of that sum in a sandbox is worth. -/
noncomputable def Yba.pinned : Pinned := { name := "ybulkbtyo", sum := "40ec1ed764547d1734ca4e8b7584c9bac183b899d46046ec342fa547da82c5ad", checked := Yba.checked }
namespace Rows
def none {H : Type} : Left H := { results := [], args := [] }

/-- 'serialis.LawS3524AFirstDirty': WHATEVER THE INPUT: true; the input reads as it did. -/
def lawS3524AFirstDirtySpec : ChangeSpec := { name := "lawS3524AFirstDirty", fn := fun _ => fun
  | [d1, d2] => { results := [.lit (.bool true)], args := [d1, d2] }
  | _ => none }
def lawS3524AFirstDirtyRow : OpenClaim := { program := "ybulkbtyo", sum := "40ec1ed764547d1734ca4e8b7584c9bac183b899d46046ec342fa547da82c5ad", func := "example.com/serialis/serialis.LawS3524AFirstDirty", spec := "lawS3524AFirstDirty", recurses := true, apart := false }
def LawS3524AFirstDirtySaid : Prop := lawS3524AFirstDirtyRow.holds Yba.pinned (OpenSpec.ofChange lawS3524AFirstDirtySpec)

/-- ITS FALSE NEIGHBOUR: 'it returns false'. Refute it at one input. -/
def lawS3524AFirstDirtyWrong : ChangeSpec := { name := "lawS3524AFirstDirty", fn := fun _ => fun
  | [d1, d2] => { results := [.lit (.bool false)], args := [d1, d2] }
  | _ => none }
def LawS3524AFirstDirtyWrongFalsely : Prop := lawS3524AFirstDirtyRow.holds Yba.pinned (OpenSpec.ofChange lawS3524AFirstDirtyWrong)

/-- 'serialis.LawS3524CModel': WHATEVER THE INPUT: true; the input reads as it did. -/
def lawS3524CModelSpec : ChangeSpec := { name := "lawS3524CModel", fn := fun _ => fun
  | [d1, d2, d3, d4] => { results := [.lit (.bool true)], args := [d1, d2, d3, d4] }
  | _ => none }
def lawS3524CModelRow : OpenClaim := { program := "ybulkbtyo", sum := "40ec1ed764547d1734ca4e8b7584c9bac183b899d46046ec342fa547da82c5ad", func := "example.com/serialis/serialis.LawS3524CModel", spec := "lawS3524CModel", apart := false }
def LawS3524CModelSaid : Prop := lawS3524CModelRow.holds Yba.pinned (OpenSpec.ofChange lawS3524CModelSpec)

/-- ITS FALSE NEIGHBOUR: 'it returns false'. Refute it at one input. -/
def lawS3524CModelWrong : ChangeSpec := { name := "lawS3524CModel", fn := fun _ => fun
  | [d1, d2, d3, d4] => { results := [.lit (.bool false)], args := [d1, d2, d3, d4] }
  | _ => none }
def LawS3524CModelWrongFalsely : Prop := lawS3524CModelRow.holds Yba.pinned (OpenSpec.ofChange lawS3524CModelWrong)

/-- 'serialis.LawS3524CNil': WHATEVER THE INPUT: true; the input reads as it did. -/
def lawS3524CNilSpec : ChangeSpec := { name := "lawS3524CNil", fn := fun _ => fun
  | [d] => { results := [.lit (.bool true)], args := [d] }
  | _ => none }
def lawS3524CNilRow : OpenClaim := { program := "ybulkbtyo", sum := "40ec1ed764547d1734ca4e8b7584c9bac183b899d46046ec342fa547da82c5ad", func := "example.com/serialis/serialis.LawS3524CNil", spec := "lawS3524CNil", apart := false }
def LawS3524CNilSaid : Prop := lawS3524CNilRow.holds Yba.pinned (OpenSpec.ofChange lawS3524CNilSpec)

/-- ITS FALSE NEIGHBOUR: 'it returns false'. Refute it at one input. -/
def lawS3524CNilWrong : ChangeSpec := { name := "lawS3524CNil", fn := fun _ => fun
  | [d] => { results := [.lit (.bool false)], args := [d] }
  | _ => none }
def LawS3524CNilWrongFalsely : Prop := lawS3524CNilRow.holds Yba.pinned (OpenSpec.ofChange lawS3524CNilWrong)

end Rows
end Go.Proofs.Ybulkbtyo
