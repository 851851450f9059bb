/-
  The frame that the three laws over 'packedRun' share: what the listed table 'itemDigit' holds, how it reads in whatever world, the door's heap as witness.
-/
import Derived.Test.YbulkbtyoDoorRows
import Derived.ProofKit
import Derived.WalkKit
import Derived.LaidMore
import Derived.OpenShut
import Derived.Stop.Joined
import Derived.Lib.LaidTab
import Derived.ChangeVars
import Derived.Below
import Derived.ShutString
import Derived.WalkSmall
namespace Go.Proofs.YbulkbtyoDoor
open Go.ChangeShapes Go.WideShapes Go.ChangeAt Go.WideMaps Go.WideElems Go.RowKit

/-- The table's name, off the given row. -/
def vn : String := Rows.lawS3524BPastRow.named.headD ""
theorem own : ownKnob Ybad.prog.godebug = none := by kernel_rfl
theorem laidOut : laidOutB Ybad.prog = true := by kernel_rfl
theorem gItem : Ybad.prog.globalNamed vn = some 0 := by kernel_rfl
theorem tItem : (Ybad.prog.globals[0]?).map (·.type) = some 32 := by kernel_rfl
theorem Ybad.cells5 : Ybad.prog.cellsOf 5 = 1 := by kernel_rfl
theorem Ybad.cells32 : Ybad.prog.cellsOf 32 = 256 := by kernel_rfl

/-- The table's numbers, byte by byte. -/
def zs : List Int := (List.range 256).map fun (c : Nat) => if 48 ≤ c ∧ c ≤ 57 then (c : Int) - 47 else if 65 ≤ c ∧ c ≤ 90 then (c : Int) - 54 else if 97 ≤ c ∧ c ≤ 122 then (c : Int) - 60 else 0
def laid1 : List (String × DataW Unit) := [(vn, Rows.laid_example_com_serialis_serialis_itemDigit)]
theorem laid_is {H : Type} : (Rows.laid_example_com_serialis_serialis_itemDigit : DataW H) = Lib.tabData .u8 zs := by kernel_rfl

def cellsA : Array Value := (zs.map fun z => Value.int .u8 z).toArray

theorem tab_of_laid {W : World} (h : laidMetH Ybad.prog laid1 W) : Lib.TabIs Ybad.prog W vn .u8 zs := by
  rw [MakeChecks.laidMetH_plain _ _ _ (by kernel_rfl)] at h
  unfold laid1 at h
  rw [laid_is] at h
  exact Lib.tabIs_of_head gItem tItem Ybad.underlying32 Ybad.underlying5 Ybad.cells5 Ybad.cells32 h

theorem reads_table {H : Type} (enc : TypeId × Value → H) (W : World) (sp : Nat → Bool) : DataW.trod enc Ybad.prog W 0 sp true 3 32 cellsA.toList = some (Lib.tabData .u8 zs, []) := by kernel_rfl

/-- A byte's digit. -/
def dgN (m : Int) : Int := if 48 ≤ m ∧ m ≤ 57 then m - 47 else if 65 ≤ m ∧ m ≤ 90 then m - 54 else if 97 ≤ m ∧ m ≤ 122 then m - 60 else 0
def dg (c : UInt8) : Int := dgN c.toNat
theorem dgN_bd (m : Int) : 0 ≤ dgN m ∧ dgN m ≤ 62 := by unfold dgN; repeat' split <;> omega
theorem zs_at (i : Nat) (hi : i < 256) : zs.getD i 0 = dgN i := by
  unfold zs dgN
  simp only [List.getD, List.getElem?_map, List.getElem?_range hi, Option.map_some, Option.getD_some]
  repeat' split
  all_goals omega
theorem zs_len : zs.length = 256 := by simp [zs]
/-- What a walk reads of the table. -/
theorem tab_cell {W : World} (h : laidMetH Ybad.prog laid1 W) (c : UInt8) : W.cell? ⟨0, c.toNat, none⟩ = some (.int .u8 (dg c)) := by
  have := (tab_of_laid h).cell gItem c.toNat (by rw [zs_len]; exact c.toNat_lt)
  rw [zs_at _ c.toNat_lt] at this
  exact this
/-- The named variable read again, in whatever later world that has left it alone. -/
theorem vars_again {H : Type} (enc : TypeId × Value → H) {W : World} (hvar : W.var? Ybad.prog vn = some cellsA) (sp : Nat → Bool) :
    DataW.TrodVars enc Ybad.prog W sp [vn] [Lib.tabData .u8 zs] (MemPlace.row ⟨0, 0, none⟩ cellsA.size ++ [] ++ []) :=
  ⟨0, 32, cellsA, 3, [], [], gItem, tItem, hvar, reads_table enc W sp, rfl, rfl⟩
end Go.Proofs.YbulkbtyoDoor
