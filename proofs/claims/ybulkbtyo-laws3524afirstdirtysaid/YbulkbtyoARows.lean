/-
  THE A LAW's THREE ROWS in memory: how the first loop fills them; how they make the scan.
-/
import Derived.Test.YbulkbtyoADirty
namespace Go.Proofs.Ybulkbtyo
open Go.RowKit

theorem Yba.info31 : (Yba.prog.info? 31).map (fun i => (i.zero, i.size, i.bytes)) = some (some (.agg #[.int .u8 0, .bool false, .int .i64 0, .int .i64 0]), 4, 24) := by kernel_rfl
def newOps (n : Nat) : Array Value := madeCells #[.int .u8 0, .bool false, .int .i64 0, .int .i64 0] n
def newInts (n : Nat) : Array Value := madeCells #[.int .i64 0] n
theorem made24 (n : Nat) (hn : n ≤ 1024) (w : World) : (Instr.makeSlice 24 (.int .i64 (n : Int)) (.int .i64 (n : Int))).run Yba.prog w = .ok (.slice (some ⟨w.heap.size, 0, none⟩) n n) (w.alloc (.cells (newOps (n * 4)) 31)) := by
  obtain ⟨i, hi, h0, h1, h2⟩ := info_parts Yba.info31
  have := run_make (P := Yba.prog) w 24 31 i _ Yba.underlying24 hi h0 .i64 .i64 n n (by omega) (by omega) (by rw [h2]; omega) (by omega)
  simpa [h1, newOps, Value.cells] using this
theorem made25 (n : Nat) (hn : n ≤ 1024) (w : World) : (Instr.makeSlice 25 (.int .i64 (n : Int)) (.int .i64 (n : Int))).run Yba.prog w = .ok (.slice (some ⟨w.heap.size, 0, none⟩) n n) (w.alloc (.cells (newInts n) 3)) := by
  obtain ⟨i, hi, h0, h1, h2⟩ := info_parts Yba.info3
  have := run_make (P := Yba.prog) w 25 3 i _ Yba.underlying25 hi h0 .i64 .i64 n n (by omega) (by omega) (by rw [h2]; omega) (by omega)
  simpa [h1, newInts, Value.cells] using this

/-- The steps that came in: element i's three cells. -/
def Steps (w : World) (a : Option Addr) (n : Nat) (kd tx sr : Nat → Int) : Prop :=
  ∀ i, i < n → ∃ b off, a = some ⟨b, off, none⟩ ∧ w.cell? ⟨b, off + i * 3, none⟩ = some (.int .u8 (kd i)) ∧ w.cell? ⟨b, off + i * 3 + 1, none⟩ = some (.int .u8 (tx i)) ∧ w.cell? ⟨b, off + i * 3 + 2, none⟩ = some (.int .u16 (sr i)) ∧
    0 ≤ kd i ∧ kd i ≤ 255 ∧ 0 ≤ tx i ∧ tx i ≤ 255 ∧ 0 ≤ sr i ∧ sr i ≤ 65535
theorem Steps.below {w w' : World} {a : Option Addr} {n : Nat} {kd tx sr : Nat → Int} (h : Steps w a n kd tx sr) (hb : Below w.heap.size w w') : Steps w' a n kd tx sr := fun i hi => by
  obtain ⟨b, off, h0, h1, h2, h3, h4⟩ := h i hi
  exact ⟨b, off, h0, keep hb rfl h1, keep hb rfl h2, keep hb rfl h3, h4⟩

/-- The three rows while the first loop fills them: k steps are in. -/
structure Fill (w1 wr : World) (O T R n k : Nat) (K t r : Nat → Int) : Prop where
  below : Below w1.heap.size w1 wr
  bO : w1.heap.size ≤ O
  bT : w1.heap.size ≤ T
  bR : w1.heap.size ≤ R
  nOT : O ≠ T
  nOR : O ≠ R
  nTR : T ≠ R
  lO : O < wr.heap.size
  lT : T < wr.heap.size
  lR : R < wr.heap.size
  cO : ∀ j, j < n * 4 → ∃ v, wr.cell? ⟨O, j, none⟩ = some v
  cT : ∀ j, j < n → ∃ v, wr.cell? ⟨T, j, none⟩ = some v
  cR : ∀ j, j < n → ∃ v, wr.cell? ⟨R, j, none⟩ = some v
  fO : ∀ j, wr.frozen? ⟨O, j, none⟩ = false
  fT : ∀ j, wr.frozen? ⟨T, j, none⟩ = false
  fR : ∀ j, wr.frozen? ⟨R, j, none⟩ = false
  o0 : ∀ i, i < k → wr.cell? ⟨O, i * 4, none⟩ = some (.int .u8 (K i))
  o1 : ∀ i, i < k → wr.cell? ⟨O, i * 4 + 1, none⟩ = some (.bool false)
  o2 : ∀ i, i < k → wr.cell? ⟨O, i * 4 + 2, none⟩ = some (.int .i64 (t i))
  o3 : ∀ i, i < k → wr.cell? ⟨O, i * 4 + 3, none⟩ = some (.int .i64 0)
  tt : ∀ i, i < k → wr.cell? ⟨T, i, none⟩ = some (.int .i64 (t i))
  rr : ∀ i, i < k → wr.cell? ⟨R, i, none⟩ = some (.int .i64 (r i))

theorem Fill.start (w1 : World) (n : Nat) (K t r : Nat → Int) :
    Fill w1 (((w1.alloc (.cells (newOps (n * 4)) 31)).alloc (.cells (newInts n) 3)).alloc (.cells (newInts n) 3)) w1.heap.size (w1.heap.size + 1) (w1.heap.size + 1 + 1) n 0 K t r := by
  have s1 : (newOps (n * 4)).size = n * 4 := size_madeCells _ _
  have s2 : (newInts n).size = n := size_madeCells _ _
  have hO : (((w1.alloc (.cells (newOps (n * 4)) 31)).alloc (.cells (newInts n) 3)).alloc (.cells (newInts n) 3)).heap[w1.heap.size]? = some (.cells (newOps (n * 4)) 31) := by
    rw [Below.heap_alloc _ _ _ (by simp; omega), Below.heap_alloc _ _ _ (by simp), heap_alloc_new]
  have hT : (((w1.alloc (.cells (newOps (n * 4)) 31)).alloc (.cells (newInts n) 3)).alloc (.cells (newInts n) 3)).heap[w1.heap.size + 1]? = some (.cells (newInts n) 3) := by
    rw [Below.heap_alloc _ _ _ (by simp)]
    have := heap_alloc_new (w1.alloc (.cells (newOps (n * 4)) 31)) (.cells (newInts n) 3)
    simpa using this
  have hR : (((w1.alloc (.cells (newOps (n * 4)) 31)).alloc (.cells (newInts n) 3)).alloc (.cells (newInts n) 3)).heap[w1.heap.size + 1 + 1]? = some (.cells (newInts n) 3) := by
    have := heap_alloc_new ((w1.alloc (.cells (newOps (n * 4)) 31)).alloc (.cells (newInts n) 3)) (.cells (newInts n) 3)
    simpa using this
  refine ⟨?_, by omega, by omega, by omega, by omega, by omega, by omega, by simp; omega, by simp, by simp, ?_, ?_, ?_, ?_, ?_, ?_, fun i hi => by omega, fun i hi => by omega, fun i hi => by omega, fun i hi => by omega, fun i hi => by omega, fun i hi => by omega⟩
  · exact (((Below.refl _ _).alloc (Nat.le_refl _) _).alloc (by simp) _).alloc (by simp; omega) _
  · intro j hj
    exact ⟨_, (cell_of_row _ _ j _ _ _ hO).trans (Array.getElem?_eq_getElem (by rw [s1]; exact hj))⟩
  · intro j hj
    exact ⟨_, (cell_of_row _ _ j _ _ _ hT).trans (Array.getElem?_eq_getElem (by rw [s2]; exact hj))⟩
  · intro j hj
    exact ⟨_, (cell_of_row _ _ j _ _ _ hR).trans (Array.getElem?_eq_getElem (by rw [s2]; exact hj))⟩
  · exact fun j => frozen_of_row _ _ j _ _ hO
  · exact fun j => frozen_of_row _ _ j _ _ hT
  · exact fun j => frozen_of_row _ _ j _ _ hR

theorem set_same {w : World} {p : Addr} {x : Value} (h : ∃ v, w.cell? p = some v) : (w.setCell p x).cell? p = some x := by
  obtain ⟨v, hv⟩ := h
  exact World.cell?_setCell_same _ _ _ hv
theorem set_other {w : World} {p q : Addr} {x : Value} (h : p ≠ q) : (w.setCell p x).cell? q = w.cell? q := World.cell?_setCell_other _ _ _ _ h
theorem some_set {w : World} {p q : Addr} {x : Value} (h : ∃ v, w.cell? q = some v) : ∃ v, (w.setCell p x).cell? q = some v := by
  by_cases e : p = q
  · subst e; exact ⟨x, set_same h⟩
  · obtain ⟨v, hv⟩ := h
    exact ⟨v, by rw [set_other e]; exact hv⟩
theorem ne_blk {a b i j : Nat} (h : a ≠ b) : (⟨a, i, none⟩ : Addr) ≠ ⟨b, j, none⟩ := fun e => h (congrArg Addr.block e)
theorem ne_off {a b i j : Nat} (h : i ≠ j) : (⟨a, i, none⟩ : Addr) ≠ ⟨b, j, none⟩ := fun e => h (congrArg Addr.off e)

/-- One step more. -/
theorem Fill.step {w1 wr : World} {O T R n k : Nat} {K t r : Nat → Int} (h : Fill w1 wr O T R n k K t r) (hk : k < n) (o : Obj) (x y z : Int) (hx : K k = x) (hy : t k = y) (hz : r k = z) :
    Fill w1 (((((((wr.setCell ⟨O, k * 4, none⟩ (.int .u8 x)).setCell ⟨O, k * 4 + 1, none⟩ (.bool false)).setCell ⟨O, k * 4 + 2, none⟩ (.int .i64 y)).setCell ⟨O, k * 4 + 3, none⟩ (.int .i64 0)).setCell ⟨T, k, none⟩ (.int .i64 y)).setCell ⟨R, k, none⟩ (.int .i64 z)).alloc o) O T R n (k + 1) K t r := by
  have hs : ((((((wr.setCell ⟨O, k * 4, none⟩ (.int .u8 x)).setCell ⟨O, k * 4 + 1, none⟩ (.bool false)).setCell ⟨O, k * 4 + 2, none⟩ (.int .i64 y)).setCell ⟨O, k * 4 + 3, none⟩ (.int .i64 0)).setCell ⟨T, k, none⟩ (.int .i64 y)).setCell ⟨R, k, none⟩ (.int .i64 z)).heap.size = wr.heap.size := by simp [World.setCell]
  have hfz : ∀ a, ((((((wr.setCell ⟨O, k * 4, none⟩ (.int .u8 x)).setCell ⟨O, k * 4 + 1, none⟩ (.bool false)).setCell ⟨O, k * 4 + 2, none⟩ (.int .i64 y)).setCell ⟨O, k * 4 + 3, none⟩ (.int .i64 0)).setCell ⟨T, k, none⟩ (.int .i64 y)).setCell ⟨R, k, none⟩ (.int .i64 z)).frozen? a = wr.frozen? a := fun a => by simp
  have hsome : ∀ q, (∃ v, wr.cell? q = some v) → ∃ v, ((((((wr.setCell ⟨O, k * 4, none⟩ (.int .u8 x)).setCell ⟨O, k * 4 + 1, none⟩ (.bool false)).setCell ⟨O, k * 4 + 2, none⟩ (.int .i64 y)).setCell ⟨O, k * 4 + 3, none⟩ (.int .i64 0)).setCell ⟨T, k, none⟩ (.int .i64 y)).setCell ⟨R, k, none⟩ (.int .i64 z)).cell? q = some v := fun q hq =>
    some_set (some_set (some_set (some_set (some_set (some_set hq)))))
  have hbel : Below w1.heap.size w1 ((((((wr.setCell ⟨O, k * 4, none⟩ (.int .u8 x)).setCell ⟨O, k * 4 + 1, none⟩ (.bool false)).setCell ⟨O, k * 4 + 2, none⟩ (.int .i64 y)).setCell ⟨O, k * 4 + 3, none⟩ (.int .i64 0)).setCell ⟨T, k, none⟩ (.int .i64 y)).setCell ⟨R, k, none⟩ (.int .i64 z)) :=
    (((((h.below.setCell h.bO _).setCell h.bO _).setCell h.bO _).setCell h.bO _).setCell h.bT _).setCell h.bR _
  -- the row's cells
  have cO : ∀ j, j ≠ k * 4 → j ≠ k * 4 + 1 → j ≠ k * 4 + 2 → j ≠ k * 4 + 3 → ((((((wr.setCell ⟨O, k * 4, none⟩ (.int .u8 x)).setCell ⟨O, k * 4 + 1, none⟩ (.bool false)).setCell ⟨O, k * 4 + 2, none⟩ (.int .i64 y)).setCell ⟨O, k * 4 + 3, none⟩ (.int .i64 0)).setCell ⟨T, k, none⟩ (.int .i64 y)).setCell ⟨R, k, none⟩ (.int .i64 z)).cell? ⟨O, j, none⟩ = wr.cell? ⟨O, j, none⟩ := fun j h0 h1 h2 h3 => by
    rw [set_other (ne_blk h.nOR.symm), set_other (ne_blk h.nOT.symm), set_other (ne_off (Ne.symm h3)), set_other (ne_off (Ne.symm h2)), set_other (ne_off (Ne.symm h1)), set_other (ne_off (Ne.symm h0))]
  have cT : ∀ j, j ≠ k → ((((((wr.setCell ⟨O, k * 4, none⟩ (.int .u8 x)).setCell ⟨O, k * 4 + 1, none⟩ (.bool false)).setCell ⟨O, k * 4 + 2, none⟩ (.int .i64 y)).setCell ⟨O, k * 4 + 3, none⟩ (.int .i64 0)).setCell ⟨T, k, none⟩ (.int .i64 y)).setCell ⟨R, k, none⟩ (.int .i64 z)).cell? ⟨T, j, none⟩ = wr.cell? ⟨T, j, none⟩ := fun j h0 => by
    rw [set_other (ne_blk h.nTR.symm), set_other (ne_off (Ne.symm h0)), set_other (ne_blk h.nOT), set_other (ne_blk h.nOT), set_other (ne_blk h.nOT), set_other (ne_blk h.nOT)]
  have cR : ∀ j, j ≠ k → ((((((wr.setCell ⟨O, k * 4, none⟩ (.int .u8 x)).setCell ⟨O, k * 4 + 1, none⟩ (.bool false)).setCell ⟨O, k * 4 + 2, none⟩ (.int .i64 y)).setCell ⟨O, k * 4 + 3, none⟩ (.int .i64 0)).setCell ⟨T, k, none⟩ (.int .i64 y)).setCell ⟨R, k, none⟩ (.int .i64 z)).cell? ⟨R, j, none⟩ = wr.cell? ⟨R, j, none⟩ := fun j h0 => by
    rw [set_other (ne_off (Ne.symm h0)), set_other (ne_blk h.nTR), set_other (ne_blk h.nOR), set_other (ne_blk h.nOR), set_other (ne_blk h.nOR), set_other (ne_blk h.nOR)]
  have n0 : ((((((wr.setCell ⟨O, k * 4, none⟩ (.int .u8 x)).setCell ⟨O, k * 4 + 1, none⟩ (.bool false)).setCell ⟨O, k * 4 + 2, none⟩ (.int .i64 y)).setCell ⟨O, k * 4 + 3, none⟩ (.int .i64 0)).setCell ⟨T, k, none⟩ (.int .i64 y)).setCell ⟨R, k, none⟩ (.int .i64 z)).cell? ⟨O, k * 4, none⟩ = some (.int .u8 x) := by
    rw [set_other (ne_blk h.nOR.symm), set_other (ne_blk h.nOT.symm), set_other (ne_off (by omega)), set_other (ne_off (by omega)), set_other (ne_off (by omega))]
    exact set_same (h.cO _ (by omega))
  have n1 : ((((((wr.setCell ⟨O, k * 4, none⟩ (.int .u8 x)).setCell ⟨O, k * 4 + 1, none⟩ (.bool false)).setCell ⟨O, k * 4 + 2, none⟩ (.int .i64 y)).setCell ⟨O, k * 4 + 3, none⟩ (.int .i64 0)).setCell ⟨T, k, none⟩ (.int .i64 y)).setCell ⟨R, k, none⟩ (.int .i64 z)).cell? ⟨O, k * 4 + 1, none⟩ = some (.bool false) := by
    rw [set_other (ne_blk h.nOR.symm), set_other (ne_blk h.nOT.symm), set_other (ne_off (by omega)), set_other (ne_off (by omega))]
    exact set_same (some_set (h.cO _ (by omega)))
  have n2 : ((((((wr.setCell ⟨O, k * 4, none⟩ (.int .u8 x)).setCell ⟨O, k * 4 + 1, none⟩ (.bool false)).setCell ⟨O, k * 4 + 2, none⟩ (.int .i64 y)).setCell ⟨O, k * 4 + 3, none⟩ (.int .i64 0)).setCell ⟨T, k, none⟩ (.int .i64 y)).setCell ⟨R, k, none⟩ (.int .i64 z)).cell? ⟨O, k * 4 + 2, none⟩ = some (.int .i64 y) := by
    rw [set_other (ne_blk h.nOR.symm), set_other (ne_blk h.nOT.symm), set_other (ne_off (by omega))]
    exact set_same (some_set (some_set (h.cO _ (by omega))))
  have n3 : ((((((wr.setCell ⟨O, k * 4, none⟩ (.int .u8 x)).setCell ⟨O, k * 4 + 1, none⟩ (.bool false)).setCell ⟨O, k * 4 + 2, none⟩ (.int .i64 y)).setCell ⟨O, k * 4 + 3, none⟩ (.int .i64 0)).setCell ⟨T, k, none⟩ (.int .i64 y)).setCell ⟨R, k, none⟩ (.int .i64 z)).cell? ⟨O, k * 4 + 3, none⟩ = some (.int .i64 0) := by
    rw [set_other (ne_blk h.nOR.symm), set_other (ne_blk h.nOT.symm)]
    exact set_same (some_set (some_set (some_set (h.cO _ (by omega)))))
  have n4 : ((((((wr.setCell ⟨O, k * 4, none⟩ (.int .u8 x)).setCell ⟨O, k * 4 + 1, none⟩ (.bool false)).setCell ⟨O, k * 4 + 2, none⟩ (.int .i64 y)).setCell ⟨O, k * 4 + 3, none⟩ (.int .i64 0)).setCell ⟨T, k, none⟩ (.int .i64 y)).setCell ⟨R, k, none⟩ (.int .i64 z)).cell? ⟨T, k, none⟩ = some (.int .i64 y) := by
    rw [set_other (ne_blk h.nTR.symm)]
    exact set_same (some_set (some_set (some_set (some_set (h.cT _ hk)))))
  have n5 : ((((((wr.setCell ⟨O, k * 4, none⟩ (.int .u8 x)).setCell ⟨O, k * 4 + 1, none⟩ (.bool false)).setCell ⟨O, k * 4 + 2, none⟩ (.int .i64 y)).setCell ⟨O, k * 4 + 3, none⟩ (.int .i64 0)).setCell ⟨T, k, none⟩ (.int .i64 y)).setCell ⟨R, k, none⟩ (.int .i64 z)).cell? ⟨R, k, none⟩ = some (.int .i64 z) :=
    set_same (some_set (some_set (some_set (some_set (some_set (h.cR _ hk))))))
  generalize ((((((wr.setCell ⟨O, k * 4, none⟩ (.int .u8 x)).setCell ⟨O, k * 4 + 1, none⟩ (.bool false)).setCell ⟨O, k * 4 + 2, none⟩ (.int .i64 y)).setCell ⟨O, k * 4 + 3, none⟩ (.int .i64 0)).setCell ⟨T, k, none⟩ (.int .i64 y)).setCell ⟨R, k, none⟩ (.int .i64 z)) = W at *
  have lo : O < W.heap.size := by rw [hs]; exact h.lO
  have lt : T < W.heap.size := by rw [hs]; exact h.lT
  have lr : R < W.heap.size := by rw [hs]; exact h.lR
  have aO : ∀ j, (W.alloc o).cell? ⟨O, j, none⟩ = W.cell? ⟨O, j, none⟩ := fun j => World.cell?_alloc_lt _ _ _ lo
  have aT : ∀ j, (W.alloc o).cell? ⟨T, j, none⟩ = W.cell? ⟨T, j, none⟩ := fun j => World.cell?_alloc_lt _ _ _ lt
  have aR : ∀ j, (W.alloc o).cell? ⟨R, j, none⟩ = W.cell? ⟨R, j, none⟩ := fun j => World.cell?_alloc_lt _ _ _ lr
  refine ⟨hbel.alloc hbel.size o, h.bO, h.bT, h.bR, h.nOT, h.nOR, h.nTR, by simp; omega, by simp; omega, by simp; omega, fun j hj => ?_, fun j hj => ?_, fun j hj => ?_, fun j => ?_, fun j => ?_, fun j => ?_, fun i hi => ?_, fun i hi => ?_, fun i hi => ?_, fun i hi => ?_, fun i hi => ?_, fun i hi => ?_⟩
  · rw [aO]; exact hsome _ (h.cO j hj)
  · rw [aT]; exact hsome _ (h.cT j hj)
  · rw [aR]; exact hsome _ (h.cR j hj)
  · rw [World.frozen?_alloc_old _ _ _ (by simp; omega), hfz]; exact h.fO j
  · rw [World.frozen?_alloc_old _ _ _ (by simp; omega), hfz]; exact h.fT j
  · rw [World.frozen?_alloc_old _ _ _ (by simp; omega), hfz]; exact h.fR j
  · rw [aO]
    by_cases e : i = k
    · subst e; rw [hx]; exact n0
    · rw [cO _ (by omega) (by omega) (by omega) (by omega)]; exact h.o0 i (by omega)
  · rw [aO]
    by_cases e : i = k
    · subst e; exact n1
    · rw [cO _ (by omega) (by omega) (by omega) (by omega)]; exact h.o1 i (by omega)
  · rw [aO]
    by_cases e : i = k
    · subst e; rw [hy]; exact n2
    · rw [cO _ (by omega) (by omega) (by omega) (by omega)]; exact h.o2 i (by omega)
  · rw [aO]
    by_cases e : i = k
    · subst e; exact n3
    · rw [cO _ (by omega) (by omega) (by omega) (by omega)]; exact h.o3 i (by omega)
  · rw [aT]
    by_cases e : i = k
    · subst e; rw [hy]; exact n4
    · rw [cT _ e]; exact h.tt i (by omega)
  · rw [aR]
    by_cases e : i = k
    · subst e; rw [hz]; exact n5
    · rw [cR _ e]; exact h.rr i (by omega)

/-- The four commits by their number. -/
def four (c0 c1 c2 c3 : Int) (j : Nat) : Int := if j = 0 then c0 else if j = 1 then c1 else if j = 2 then c2 else c3
theorem four_cell {w : World} {C : Nat} {c0 c1 c2 c3 : Int} (h0 : w.cell? ⟨C, 0, none⟩ = some (.int .i64 c0)) (h1 : w.cell? ⟨C, 1, none⟩ = some (.int .i64 c1)) (h2 : w.cell? ⟨C, 2, none⟩ = some (.int .i64 c2)) (h3 : w.cell? ⟨C, 3, none⟩ = some (.int .i64 c3)) :
    ∀ j, j < 4 → w.cell? ⟨C, j, none⟩ = some (.int .i64 (four c0 c1 c2 c3 j)) := by
  intro j hj
  have : j = 0 ∨ j = 1 ∨ j = 2 ∨ j = 3 := by omega
  rcases this with rfl | rfl | rfl | rfl
  · exact h0
  · exact h1
  · exact h2
  · exact h3

/-- The filled rows, the commits and the struct make the scan. -/
theorem scan_of {w1 wr : World} {O T R n : Nat} {K t r : Nat → Int} (h : Fill w1 wr O T R n n K t r) (c0 c1 c2 c3 : Int) (v2 v3 v4 v5 v6 v9 v11 v12 v13 v14 : Value) :
    Scan ((wr.alloc (.cells #[.int .i64 c0, .int .i64 c1, .int .i64 c2, .int .i64 c3] 3)).alloc (.cells #[.slice (some ⟨O, 0, none⟩) n n, .slice (some ⟨T, 0, none⟩) n n, v2, v3, v4, v5, v6, .slice (some ⟨wr.heap.size, 0, none⟩) 4 4, .slice (some ⟨wr.heap.size, 0, none⟩) 4 4, v9, .slice (some ⟨R, 0, none⟩) n n, v11, v12, v13, v14] 40))
      (wr.heap.size + 1) O T R wr.heap.size n K t r (four c0 c1 c2 c3) := by
  have hS : ∀ (W : World) (cs : Array Value) (j S : Nat) (v : Value), W.heap.size = S → cs[j]? = some v → (W.alloc (.cells cs 40)).cell? ⟨S, j, none⟩ = some v := fun W cs j S v e hv => by
    subst e; rw [World.cell?_alloc_new]; exact hv
  have old : ∀ (a : Addr) (v : Value), wr.cell? a = some v → ∀ o o', ((wr.alloc o).alloc o').cell? a = some v := fun a v hv o o' => by
    have := World.block_lt_of_cell? wr a hv
    rw [World.cell?_alloc_lt _ _ _ (by simp; omega), World.cell?_alloc_lt _ _ _ this]; exact hv
  refine ⟨hS _ _ _ _ _ (by simp) rfl, hS _ _ _ _ _ (by simp) rfl, hS _ _ _ _ _ (by simp) rfl, hS _ _ _ _ _ (by simp) rfl, hS _ _ _ _ _ (by simp) rfl, fun i hi => old _ _ (h.o0 i hi) _ _, fun i hi => old _ _ (h.o1 i hi) _ _, fun i hi => old _ _ (h.o2 i hi) _ _, fun i hi => old _ _ (h.o3 i hi) _ _, fun i hi => old _ _ (h.tt i hi) _ _, fun i hi => old _ _ (h.rr i hi) _ _, ?_⟩
  have hC : ∀ (j : Nat) (v : Value), (#[Value.int .i64 c0, .int .i64 c1, .int .i64 c2, .int .i64 c3] : Array Value)[j]? = some v → ∀ o', ((wr.alloc (.cells #[.int .i64 c0, .int .i64 c1, .int .i64 c2, .int .i64 c3] 3)).alloc o').cell? ⟨wr.heap.size, j, none⟩ = some v := fun j v hv o' => by
    rw [World.cell?_alloc_lt _ _ _ (by simp), World.cell?_alloc_new]; exact hv
  exact four_cell (hC 0 _ rfl _) (hC 1 _ rfl _) (hC 2 _ rfl _) (hC 3 _ rfl _)
/-- One row of the told answer is left over where none is dirty, the other where k is the first. -/
theorem Told.clean {w w' : World} {n : Nat} {K t r c : Nat → Int} {v : Value} (h : Told w w' n K t r c v) (hd : ∀ i, i < n → dirtyB K t r c i = false) : v = .slice none 0 0 := by
  rcases h with ⟨_, h⟩ | ⟨k, g, hk, h1, _⟩
  · exact h
  · rw [hd k hk] at h1; cases h1
theorem Told.first {w w' : World} {n k : Nat} {K t r c : Nat → Int} {v : Value} (h : Told w w' n K t r c v) (hk : k < n) (h1 : dirtyB K t r c k = true) (hd : ∀ i, i < k → dirtyB K t r c i = false) :
    ∃ g, v = .slice (some ⟨g, 0, none⟩) 2 2 ∧ w'.cell? ⟨g, 0, none⟩ = some (.int .i64 (min (r k) k)) ∧ w'.cell? ⟨g, 1, none⟩ = some (.int .i64 (max (r k) k)) := by
  rcases h with ⟨h, _⟩ | ⟨k', g, hk', h1', hd', hv, _, hc0, hc1⟩
  · rw [h k hk] at h1; cases h1
  · have e : k' = k := by
      rcases Nat.lt_trichotomy k' k with l | l | l
      · rw [hd k' l] at h1'; cases h1'
      · exact l
      · rw [hd' k l] at h1; cases h1
    subst e
    exact ⟨g, hv, hc0, hc1⟩
end Go.Proofs.Ybulkbtyo
