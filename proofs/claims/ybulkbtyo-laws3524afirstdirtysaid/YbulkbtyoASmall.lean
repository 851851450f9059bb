/-
  THE A LAW's SMALL CALLEES: committedBefore (function 12), newInstance at two different numbers (function 13), by the shelf's contracts of slices.Sort and slices.Compact.
-/
import Derived.Test.YbulkbtyoShelf
import Derived.Test.YbulkbtyoCWalks
namespace Go.Proofs.Ybulkbtyo
open Go.RowKit Go.Sort

set_option maxHeartbeats 400000 in
theorem committed (C : Nat) (v2 : Value) (t k c : Int) (w : World) (hC : C < w.heap.size) (h0 : 0 ≤ t) (h1 : t ≤ 3) (hc : w.cell? ⟨C, t.toNat, none⟩ = some (.int .i64 c)) :
    Calls Yba.prog 12 #[.agg #[.slice (some ⟨C, 0, none⟩) 4 4, v2], .int .i64 t, .int .i64 k] w fun e w' => e = .returned (.bool (decide (c < k))) ∧ ∃ o, w' = w.alloc o := by
  go_enter Yba.func12, Yba.ntmps12
  go_wp2
  go_ret
  exact ⟨rfl, _, rfl⟩

theorem sort2 (x y : Int) : [x, y].mergeSort (fun a b => decide (a ≤ b)) = [min x y, max x y] := by
  by_cases hl : x ≤ y
  · have e1 : min x y = x := by omega
    have e2 : max x y = y := by omega
    rw [e1, e2]
    exact List.mergeSort_of_pairwise (by simp [hl])
  · have e1 : min x y = y := by omega
    have e2 : max x y = x := by omega
    rw [e1, e2]
    simp [List.mergeSort, List.MergeSort.Internal.splitInTwo, hl]
theorem compact2 (x y : Int) (h : x ≠ y) : Lib.compact [x, y] = [x, y] := by
  apply Lib.compact_all
  intro j hj
  have : j = 0 ∨ j = 1 := by simp at hj; omega
  rcases this with rfl | rfl
  · simp [Lib.keeps]
  · simp [Lib.keeps]; omega

theorem below_put {w : World} {g q : Nat} {os : Array Obj} (d : Array Int) (hg : g < w.heap.size) : Below g w (grow (putRow (Value.int .i64) (Sort.ahead w q) g 0 d) os) := by
  refine ⟨rfl, rfl, rfl, by simp, fun k hk => ?_⟩
  rw [heap_grow_old _ _ (by simp; omega)]
  have : g ≠ k := by omega
  simp [putRow, mapBlock, Sort.ahead, Array.getElem?_modify, this]
theorem below_put0 {w : World} {g q : Nat} (d : Array Int) (hg : g < w.heap.size) : Below g w (putRow (Value.int .i64) (Sort.ahead w q) g 0 d) := by
  have := below_put (w := w) (g := g) (q := q) (os := #[]) d hg
  rwa [grow_empty] at this

/-- What newInstance leaves: the two numbers in order; nothing below its block has turned. -/
structure Inst (w w' : World) (g : Nat) (x y : Int) : Prop where
  lo : w'.cell? ⟨g, 0, none⟩ = some (.int .i64 (min x y))
  hi : w'.cell? ⟨g, 1, none⟩ = some (.int .i64 (max x y))
  below : Below g w w'

theorem sortH (g : Nat) (x y : Int) (w : World) (hg : g < w.heap.size) (hH : Holds (Value.int .i64) w g 0 #[x, y]) :
    Calls Yba.prog 15 #[.slice (some ⟨g, 0, none⟩) 2 2] w fun e w' => e = .returned (.tuple #[]) ∧ Hid (Below g w w' ∧ g < w'.heap.size ∧ Holds (Value.int .i64) w' g 0 #[min x y, max x y]) := by
  refine (Yba.slices_Sort_int g 0 2 [x, y] w hH hg (by simp)).mono ?_
  rintro e w' ⟨rfl, q, os, rfl⟩
  rw [sort2 x y]
  refine ⟨rfl, below_put _ hg, by simp; omega, ?_⟩
  refine holds_grow _ _ _ _ _ _ (by simpa using hg) ?_
  exact holds_putRow _ _ _ _ #[x, y] _ (holds_ahead _ _ _ _ _ _ hH) (by simp)
theorem compactH (g : Nat) (x y : Int) (w : World) (hg : g < w.heap.size) (hH : Holds (Value.int .i64) w g 0 #[x, y]) (hne : x ≠ y) :
    Calls Yba.prog 16 #[.slice (some ⟨g, 0, none⟩) 2 2] w fun e w' => e = .returned (.slice (some ⟨g, 0, none⟩) 2 2) ∧ Hid (Below g w w' ∧ Holds (Value.int .i64) w' g 0 #[x, y]) := by
  refine (Yba.slices_Compact_int g 0 2 [x, y] w hH (by simp) (by simp)).mono ?_
  rintro e w' ⟨rfl, q, rfl⟩
  rw [compact2 x y hne]
  refine ⟨rfl, below_put0 _ hg, ?_⟩
  exact holds_putRow _ _ _ _ #[x, y] _ (holds_ahead _ _ _ _ _ _ hH) (by simp)

set_option maxHeartbeats 400000 in
theorem newInst (g : Nat) (x y : Int) (w : World) (hg : g < w.heap.size) (hH : Holds (Value.int .i64) w g 0 #[x, y]) (hne : x ≠ y) :
    Calls Yba.prog 13 #[.slice (some ⟨g, 0, none⟩) 2 2] w fun e w' => e = .returned (.slice (some ⟨g, 0, none⟩) 2 2) ∧ Inst w w' g x y := by
  have HH : Hid (Holds (Value.int .i64) w g 0 #[x, y]) := hH
  have HN : Hid (x ≠ y) := hne
  clear hH hne
  go_enter Yba.func13, Yba.ntmps13
  go_wp2_with fail
  refine (sortH g x y w hg HH.out).mono ?_
  rintro e w1 ⟨rfl, H1⟩
  go_wp2_with fail
  refine (compactH g (min x y) (max x y) w1 H1.out.2.1 H1.out.2.2 (by have := HN.out; omega)).mono ?_
  rintro e w2 ⟨rfl, H2⟩
  go_wp2_with fail
  go_ret
  refine ⟨rfl, ?_, ?_, ?_⟩
  · have := (H2.out.2 0 (by simp)).1; simpa using this
  · have := (H2.out.2 1 (by simp)).1; simpa using this
  · exact H1.out.1.trans H2.out.1
end Go.Proofs.Ybulkbtyo
