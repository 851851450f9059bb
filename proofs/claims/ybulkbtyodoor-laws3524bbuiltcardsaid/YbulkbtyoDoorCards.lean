/-
  DERIVED. GIVEN WITH THE SEED: THE CARDS: each row of YbulkbtyoDoorRows.lean that lists a variable, with what it lists TIED to the program's text (the seventh form; the later family's looks); each row that meets fmt, with fmt's text TOLD by the authors' own Lean function (tested against real Go, not proved from fmt's source: count such statements apart). THE CARD IS WHAT COUNTS. Prove the row's statement (the work); the ties are given (YbulkbtyoDoorTie.lean); close each card by the builder's one call (the guide's Derived/Test/ToyasCard.lean, 'card_holds'). Laid BY PROGRAM, IN A SANDBOX (cutbox-door.mjs). By AI agents, Wed Nov 11 2026. No macro, syntax, notation, axiom, sorry.
-/
import Derived.Test.YbulkbtyoDoorRows
import GoSem.ClaimSeven
namespace Go.Proofs.YbulkbtyoDoor
namespace Rows

/-- THE TIED CARD OF 'serialis.LawS3524BModel'. -/
def lawS3524BModelCard : Claim7 := { stood := { row := lawS3524BModelRow, standIns := [], harness := (true, "a667f73ace729423b6c9de544650b4dcd6301e9f70325442e3b1bb257321d982"), looks := false }, kinds := [], alts := [], laidByText := true, laidKinds := [.called], laidTests := true, laidLooks := .later }
def LawS3524BModelCardSaid : Prop := Claim7.holds Ybad.pinned (.plain (OpenSpec.ofChange lawS3524BModelSpec)) lawS3524BModelCard

/-- THE TIED CARD OF 'serialis.LawS3524BBuilt'. -/
def lawS3524BBuiltCard : Claim7 := { stood := { row := lawS3524BBuiltRow, standIns := [], harness := (true, "a667f73ace729423b6c9de544650b4dcd6301e9f70325442e3b1bb257321d982"), looks := false }, kinds := [], alts := [], laidByText := true, laidKinds := [.called], laidTests := true, laidLooks := .later }
def LawS3524BBuiltCardSaid : Prop := Claim7.holds Ybad.pinned (.plain (OpenSpec.ofChange lawS3524BBuiltSpec)) lawS3524BBuiltCard

/-- THE TIED CARD OF 'serialis.LawS3524BPast'. -/
def lawS3524BPastCard : Claim7 := { stood := { row := lawS3524BPastRow, standIns := [], harness := (true, "a667f73ace729423b6c9de544650b4dcd6301e9f70325442e3b1bb257321d982"), looks := false }, kinds := [], alts := [], laidByText := true, laidKinds := [.called], laidTests := true, laidLooks := .later }
def LawS3524BPastCardSaid : Prop := Claim7.holds Ybad.pinned (.plain (OpenSpec.ofChange lawS3524BPastSpec)) lawS3524BPastCard
end Rows
end Go.Proofs.YbulkbtyoDoor
