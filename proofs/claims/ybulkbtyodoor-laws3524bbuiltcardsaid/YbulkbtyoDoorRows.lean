/-
  NARROWER THAN 'FOR EVERY INPUT', by the rows' own cells (each row's printed sentence says how): LawS3524BModel: laid · LawS3524BBuilt: laid · LawS3524BPast: laid.
  DERIVED. THE GIVEN ROWS OF THIS SEAT. 3 by the template 'for every input the law returns true; each argument reads behind the call as it read before'; 0 by the template 'total and deterministic' (their statements: YbulkbtyoDoorTotals.lean).
  GIVEN WITH THE SEED: the statements are not yours to turn. If you find one false, say at which input.
  Laid BY PROGRAM, IN A SANDBOX (cutbox-rows.mjs): the forced cells as the released guide's own fill.sh prints them over the translation 89d5b362419bc859… (all of the seat's roots in one cut). By AI agents, Wed Nov 11 2026. No macro, syntax, notation, axiom, sorry.
-/
import Derived.Test.YbulkbtyoDoorChecked
import GoSem.Claim
import GoSem.ClaimJoined
import GoSem.ClaimMapViews
import Derived.JoinedTies
import Derived.KernelRfl
namespace Go.Proofs.YbulkbtyoDoor
/- THE CELL 'sum', in the pinned program and in every row, IS THE sha256 OF THE DUMP (.gsa) THAT YbulkbtyoDoorProg.lean LOADS. Nothing in Lean hashes anything: it is a label: what it is worth is what the hold of that sum in a sandbox is worth. -/
noncomputable def Ybad.pinned : Pinned := { name := "ybulkbtyodoor", sum := "89d5b362419bc859aea26ab1172a55e67dc89e1dbe4905da029db37193249be9", checked := Ybad.checked }
namespace Rows
def none {H : Type} : Left H := { results := [], args := [] }

/- WHAT THE LISTED PACKAGE-LEVEL VARIABLES READ AS WHEN THE CALL BEGINS. Each datum BY PROGRAM (the guide's laid-datum.mjs) off the statement by which the dump's own 'gosem.cut.vars' lays the variable. In a bare row this is a premise. The card (YbulkbtyoDoorCards.lean) ties it to the program's text. -/
def laid_example_com_serialis_serialis_itemDigit {H : Type} : DataW H := .agg [.lit (.int .u8 0), .lit (.int .u8 0), .lit (.int .u8 0), .lit (.int .u8 0), .lit (.int .u8 0), .lit (.int .u8 0), .lit (.int .u8 0), .lit (.int .u8 0), .lit (.int .u8 0), .lit (.int .u8 0), .lit (.int .u8 0), .lit (.int .u8 0), .lit (.int .u8 0), .lit (.int .u8 0), .lit (.int .u8 0), .lit (.int .u8 0), .lit (.int .u8 0), .lit (.int .u8 0), .lit (.int .u8 0), .lit (.int .u8 0), .lit (.int .u8 0), .lit (.int .u8 0), .lit (.int .u8 0), .lit (.int .u8 0), .lit (.int .u8 0), .lit (.int .u8 0), .lit (.int .u8 0), .lit (.int .u8 0), .lit (.int .u8 0), .lit (.int .u8 0), .lit (.int .u8 0), .lit (.int .u8 0), .lit (.int .u8 0), .lit (.int .u8 0), .lit (.int .u8 0), .lit (.int .u8 0), .lit (.int .u8 0), .lit (.int .u8 0), .lit (.int .u8 0), .lit (.int .u8 0), .lit (.int .u8 0), .lit (.int .u8 0), .lit (.int .u8 0), .lit (.int .u8 0), .lit (.int .u8 0), .lit (.int .u8 0), .lit (.int .u8 0), .lit (.int .u8 0), .lit (.int .u8 1), .lit (.int .u8 2), .lit (.int .u8 3), .lit (.int .u8 4), .lit (.int .u8 5), .lit (.int .u8 6), .lit (.int .u8 7), .lit (.int .u8 8), .lit (.int .u8 9), .lit (.int .u8 10), .lit (.int .u8 0), .lit (.int .u8 0), .lit (.int .u8 0), .lit (.int .u8 0), .lit (.int .u8 0), .lit (.int .u8 0), .lit (.int .u8 0), .lit (.int .u8 11), .lit (.int .u8 12), .lit (.int .u8 13), .lit (.int .u8 14), .lit (.int .u8 15), .lit (.int .u8 16), .lit (.int .u8 17), .lit (.int .u8 18), .lit (.int .u8 19), .lit (.int .u8 20), .lit (.int .u8 21), .lit (.int .u8 22), .lit (.int .u8 23), .lit (.int .u8 24), .lit (.int .u8 25), .lit (.int .u8 26), .lit (.int .u8 27), .lit (.int .u8 28), .lit (.int .u8 29), .lit (.int .u8 30), .lit (.int .u8 31), .lit (.int .u8 32), .lit (.int .u8 33), .lit (.int .u8 34), .lit (.int .u8 35), .lit (.int .u8 36), .lit (.int .u8 0), .lit (.int .u8 0), .lit (.int .u8 0), .lit (.int .u8 0), .lit (.int .u8 0), .lit (.int .u8 0), .lit (.int .u8 37), .lit (.int .u8 38), .lit (.int .u8 39), .lit (.int .u8 40), .lit (.int .u8 41), .lit (.int .u8 42), .lit (.int .u8 43), .lit (.int .u8 44), .lit (.int .u8 45), .lit (.int .u8 46), .lit (.int .u8 47), .lit (.int .u8 48), .lit (.int .u8 49), .lit (.int .u8 50), .lit (.int .u8 51), .lit (.int .u8 52), .lit (.int .u8 53), .lit (.int .u8 54), .lit (.int .u8 55), .lit (.int .u8 56), .lit (.int .u8 57), .lit (.int .u8 58), .lit (.int .u8 59), .lit (.int .u8 60), .lit (.int .u8 61), .lit (.int .u8 62), .lit (.int .u8 0), .lit (.int .u8 0), .lit (.int .u8 0), .lit (.int .u8 0), .lit (.int .u8 0), .lit (.int .u8 0), .lit (.int .u8 0), .lit (.int .u8 0), .lit (.int .u8 0), .lit (.int .u8 0), .lit (.int .u8 0), .lit (.int .u8 0), .lit (.int .u8 0), .lit (.int .u8 0), .lit (.int .u8 0), .lit (.int .u8 0), .lit (.int .u8 0), .lit (.int .u8 0), .lit (.int .u8 0), .lit (.int .u8 0), .lit (.int .u8 0), .lit (.int .u8 0), .lit (.int .u8 0), .lit (.int .u8 0), .lit (.int .u8 0), .lit (.int .u8 0), .lit (.int .u8 0), .lit (.int .u8 0), .lit (.int .u8 0), .lit (.int .u8 0), .lit (.int .u8 0), .lit (.int .u8 0), .lit (.int .u8 0), .lit (.int .u8 0), .lit (.int .u8 0), .lit (.int .u8 0), .lit (.int .u8 0), .lit (.int .u8 0), .lit (.int .u8 0), .lit (.int .u8 0), .lit (.int .u8 0), .lit (.int .u8 0), .lit (.int .u8 0), .lit (.int .u8 0), .lit (.int .u8 0), .lit (.int .u8 0), .lit (.int .u8 0), .lit (.int .u8 0), .lit (.int .u8 0), .lit (.int .u8 0), .lit (.int .u8 0), .lit (.int .u8 0), .lit (.int .u8 0), .lit (.int .u8 0), .lit (.int .u8 0), .lit (.int .u8 0), .lit (.int .u8 0), .lit (.int .u8 0), .lit (.int .u8 0), .lit (.int .u8 0), .lit (.int .u8 0), .lit (.int .u8 0), .lit (.int .u8 0), .lit (.int .u8 0), .lit (.int .u8 0), .lit (.int .u8 0), .lit (.int .u8 0), .lit (.int .u8 0), .lit (.int .u8 0), .lit (.int .u8 0), .lit (.int .u8 0), .lit (.int .u8 0), .lit (.int .u8 0), .lit (.int .u8 0), .lit (.int .u8 0), .lit (.int .u8 0), .lit (.int .u8 0), .lit (.int .u8 0), .lit (.int .u8 0), .lit (.int .u8 0), .lit (.int .u8 0), .lit (.int .u8 0), .lit (.int .u8 0), .lit (.int .u8 0), .lit (.int .u8 0), .lit (.int .u8 0), .lit (.int .u8 0), .lit (.int .u8 0), .lit (.int .u8 0), .lit (.int .u8 0), .lit (.int .u8 0), .lit (.int .u8 0), .lit (.int .u8 0), .lit (.int .u8 0), .lit (.int .u8 0), .lit (.int .u8 0), .lit (.int .u8 0), .lit (.int .u8 0), .lit (.int .u8 0), .lit (.int .u8 0), .lit (.int .u8 0), .lit (.int .u8 0), .lit (.int .u8 0), .lit (.int .u8 0), .lit (.int .u8 0), .lit (.int .u8 0), .lit (.int .u8 0), .lit (.int .u8 0), .lit (.int .u8 0), .lit (.int .u8 0), .lit (.int .u8 0), .lit (.int .u8 0), .lit (.int .u8 0), .lit (.int .u8 0), .lit (.int .u8 0), .lit (.int .u8 0), .lit (.int .u8 0), .lit (.int .u8 0), .lit (.int .u8 0), .lit (.int .u8 0), .lit (.int .u8 0), .lit (.int .u8 0), .lit (.int .u8 0), .lit (.int .u8 0), .lit (.int .u8 0), .lit (.int .u8 0), .lit (.int .u8 0), .lit (.int .u8 0), .lit (.int .u8 0), .lit (.int .u8 0), .lit (.int .u8 0), .lit (.int .u8 0), .lit (.int .u8 0)]

/-- 'serialis.LawS3524BModel': WHATEVER THE INPUT: true; the input reads as it did. -/
def lawS3524BModelSpec : ChangeSpec := { name := "lawS3524BModel", vars := ["example.com/serialis/serialis.itemDigit"], fn := fun _ => fun
  | [d1, d2, g1] => { results := [.lit (.bool true)], args := [d1, d2], vars := [g1] }
  | _ => none }
def lawS3524BModelRow : OpenClaim := { program := "ybulkbtyodoor", sum := "89d5b362419bc859aea26ab1172a55e67dc89e1dbe4905da029db37193249be9", func := "example.com/serialis/serialis.LawS3524BModel", spec := "lawS3524BModel", named := ["example.com/serialis/serialis.itemDigit"], apart := false, laid := [("example.com/serialis/serialis.itemDigit", laid_example_com_serialis_serialis_itemDigit)] }
def LawS3524BModelSaid : Prop := lawS3524BModelRow.holds Ybad.pinned (OpenSpec.ofChange lawS3524BModelSpec)

/-- ITS FALSE NEIGHBOUR: 'it returns false'. Refute it at one input. -/
def lawS3524BModelWrong : ChangeSpec := { name := "lawS3524BModel", vars := ["example.com/serialis/serialis.itemDigit"], fn := fun _ => fun
  | [d1, d2, g1] => { results := [.lit (.bool false)], args := [d1, d2], vars := [g1] }
  | _ => none }
def LawS3524BModelWrongFalsely : Prop := lawS3524BModelRow.holds Ybad.pinned (OpenSpec.ofChange lawS3524BModelWrong)

/-- 'serialis.LawS3524BBuilt': WHATEVER THE INPUT: true; the input reads as it did. -/
def lawS3524BBuiltSpec : ChangeSpec := { name := "lawS3524BBuilt", vars := ["example.com/serialis/serialis.itemDigit"], fn := fun _ => fun
  | [d1, d2, g1] => { results := [.lit (.bool true)], args := [d1, d2], vars := [g1] }
  | _ => none }
def lawS3524BBuiltRow : OpenClaim := { program := "ybulkbtyodoor", sum := "89d5b362419bc859aea26ab1172a55e67dc89e1dbe4905da029db37193249be9", func := "example.com/serialis/serialis.LawS3524BBuilt", spec := "lawS3524BBuilt", named := ["example.com/serialis/serialis.itemDigit"], apart := false, laid := [("example.com/serialis/serialis.itemDigit", laid_example_com_serialis_serialis_itemDigit)] }
def LawS3524BBuiltSaid : Prop := lawS3524BBuiltRow.holds Ybad.pinned (OpenSpec.ofChange lawS3524BBuiltSpec)

/-- ITS FALSE NEIGHBOUR: 'it returns false'. Refute it at one input. -/
def lawS3524BBuiltWrong : ChangeSpec := { name := "lawS3524BBuilt", vars := ["example.com/serialis/serialis.itemDigit"], fn := fun _ => fun
  | [d1, d2, g1] => { results := [.lit (.bool false)], args := [d1, d2], vars := [g1] }
  | _ => none }
def LawS3524BBuiltWrongFalsely : Prop := lawS3524BBuiltRow.holds Ybad.pinned (OpenSpec.ofChange lawS3524BBuiltWrong)

/-- 'serialis.LawS3524BPast': WHATEVER THE INPUT: true; the input reads as it did. -/
def lawS3524BPastSpec : ChangeSpec := { name := "lawS3524BPast", vars := ["example.com/serialis/serialis.itemDigit"], fn := fun _ => fun
  | [d1, d2, g1] => { results := [.lit (.bool true)], args := [d1, d2], vars := [g1] }
  | _ => none }
def lawS3524BPastRow : OpenClaim := { program := "ybulkbtyodoor", sum := "89d5b362419bc859aea26ab1172a55e67dc89e1dbe4905da029db37193249be9", func := "example.com/serialis/serialis.LawS3524BPast", spec := "lawS3524BPast", named := ["example.com/serialis/serialis.itemDigit"], apart := false, laid := [("example.com/serialis/serialis.itemDigit", laid_example_com_serialis_serialis_itemDigit)] }
def LawS3524BPastSaid : Prop := lawS3524BPastRow.holds Ybad.pinned (OpenSpec.ofChange lawS3524BPastSpec)

/-- ITS FALSE NEIGHBOUR: 'it returns false'. Refute it at one input. -/
def lawS3524BPastWrong : ChangeSpec := { name := "lawS3524BPast", vars := ["example.com/serialis/serialis.itemDigit"], fn := fun _ => fun
  | [d1, d2, g1] => { results := [.lit (.bool false)], args := [d1, d2], vars := [g1] }
  | _ => none }
def LawS3524BPastWrongFalsely : Prop := lawS3524BPastRow.holds Ybad.pinned (OpenSpec.ofChange lawS3524BPastWrong)

end Rows
end Go.Proofs.YbulkbtyoDoor
