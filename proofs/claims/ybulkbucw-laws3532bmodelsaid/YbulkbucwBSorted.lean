/-
  THE B LAW's CALL OF sort.Slice, in the words of the rows that the call owns.
-/
import Derived.Test.YbulkbucwBSort
namespace Go.Proofs.Ybulkbucw
open Go.Shelf Go.RowKit Go.Lib

theorem flat_get (ys : List (Int × Int)) (t : Nat) (h : t < ys.length * 2) : (enc2 ys)[t]? = some ((Sort.flatK encR 2 ys.toArray)[t]!) := by
  have h1 : t / 2 < ys.length := by omega
  obtain ⟨k1, k2⟩ := enc2_get (List.getElem?_eq_getElem h1)
  have e : (Sort.flatK encR 2 ys.toArray)[t]! = (encR ys.toArray[t / 2]!)[t % 2]! := Sort.get_flatK encR 2 ys.toArray t (by simpa using h)
  rw [e, show ys.toArray[t / 2]! = ys[t / 2] by simp [h1]]
  rcases Nat.mod_two_eq_zero_or_one t with m | m
  · rw [m]
    rw [show t / 2 * 2 = t by omega] at k1
    rw [k1]; rfl
  · rw [m]
    rw [show t / 2 * 2 + 1 = t by omega] at k2
    rw [k2]; rfl
theorem holds_own {w : World} {B g c : Nat} {ys : List (Int × Int)} (h : Own2 w B (.slice (some ⟨g, 0, none⟩) ys.length c) ys) : Sort.HoldsK encR 2 w g 0 ys.toArray := fun j hj => by
  have hj' : j < ys.length * 2 := by simpa using hj
  refine ⟨?_, ?_⟩
  · have := World.ownsRow.cellAt h j hj'
    rw [Nat.zero_add, this]
    exact flat_get ys j hj'
  · rw [Nat.zero_add]; exact World.ownsRow.frozenAt h j
theorem rng_holds {w : World} {g : Nat} {d : Array (Int × Int)} (h : Sort.HoldsK encR 2 w g 0 d) : Rng w (some ⟨g, 0, none⟩) d.toList := fun i y hy => by
  have hi : i < d.size := by have := (List.getElem?_eq_some_iff.1 hy).1; simpa using this
  have e : d[i]! = y := by
    rw [getElem!_pos d i hi]
    have := (List.getElem?_eq_some_iff.1 hy).2
    simpa using this
  have h0 := (h.cell (i := i) (c := 0) hi (by omega)).1
  have h1 := (h.cell (i := i) (c := 1) hi (by omega)).1
  rw [e] at h0 h1
  exact ⟨g, 0, rfl, h0, h1⟩
theorem below_put {w : World} {B g n off : Nat} {d : Array (Int × Int)} {os : Array Obj} (hg : B ≤ g) (hB : B ≤ w.heap.size) : Below B w (Sort.grow (Sort.putRowK encR 2 (Sort.ahead w n) g off d) os) := by
  refine ⟨rfl, rfl, rfl, ?_, fun k hk => ?_⟩
  · rw [Sort.size_grow, show (Sort.putRowK encR 2 (Sort.ahead w n) g off d).heap.size = w.heap.size from Sort.size_putRow _ _ _ _ _]; omega
  · rw [Sort.heap_grow_old _ _ (by rw [show (Sort.putRowK encR 2 (Sort.ahead w n) g off d).heap.size = w.heap.size from Sort.size_putRow _ _ _ _ _]; omega)]
    show (Sort.mapBlock (Sort.ahead w n) g _).heap[k]? = w.heap[k]?
    rw [Sort.mapBlock]
    show ((w.heap.modify g _))[k]? = w.heap[k]?
    rw [Array.getElem?_modify, if_neg (by omega)]
theorem below_grow {w : World} {B : Nat} {os : Array Obj} (hB : B ≤ w.heap.size) : Below B w (Sort.grow w os) :=
  ⟨rfl, rfl, rfl, by rw [Sort.size_grow]; omega, fun k hk => Sort.heap_grow_old _ _ (by omega)⟩

/-- sort.Slice over a row of the call's own: sorted by the lower ends, nothing lost. -/
theorem sort_call (B g c bb : Nat) (ys : List (Int × Int)) (w : World) (hO : Own2 w B (.slice (some ⟨g, 0, none⟩) ys.length c) ys) (hbb : w.cell? ⟨bb, 0, none⟩ = some (.slice (some ⟨g, 0, none⟩) ys.length c)) (hne : bb ≠ g) (hB : B ≤ w.heap.size) (hl : ys.length ≤ 100000) (hpos : 1 ≤ ys.length) :
    Calls Yba.prog 17 #[.iface 23 (.slice (some ⟨g, 0, none⟩) ys.length c), .func (.func 18) #[] #[.pointer (some ⟨bb, 0, none⟩)]] w fun e w' => e = .returned (.tuple #[]) ∧
      ∃ ys' : List (Int × Int), ys'.Perm ys ∧ ys'.Pairwise (fun x y => x.1 ≤ y.1) ∧ Rng w' (some ⟨g, 0, none⟩) ys' ∧ w'.cell? ⟨bb, 0, none⟩ = some (.slice (some ⟨g, 0, none⟩) ys.length c) ∧ Below B w w' := by
  have hlt := World.ownsRow.lt hO g rfl
  have hlb := World.block_lt_of_cell? w _ hbb
  have hR := Own2.rng hO
  by_cases h1 : ys.length = 1
  · rw [h1]
    refine (sort_one _ _ _ _ _ w).mono ?_
    rintro e w' ⟨rfl, os, rfl⟩
    refine ⟨rfl, ys, List.Perm.refl _, ?_, ?_, ?_, below_grow hB⟩
    · match ys, h1 with
      | [y], _ => exact List.pairwise_singleton _ _
    · exact Rng.later hR (below_grow (Nat.le_refl _))
    · rw [Sort.cell?_grow _ _ _ hlb, ← h1]; exact hbb
  · have hH := holds_own hO
    have hs : ys.toArray.size = ys.length := by simp
    rw [← hs]
    refine (sort_two g 0 c bb ys.toArray (by rw [hs]; omega) (by rw [hs]; omega) w hH hlt.2 (by rw [hs]; exact hbb) hlb hne).mono ?_
    rintro e w' ⟨rfl, d', n, os, hp, hso, rfl⟩
    obtain ⟨hps, _, hpp⟩ := hp
    have hHn : Sort.HoldsK encR 2 (Sort.ahead w n) g 0 ys.toArray := hH
    have hH' := Sort.holdsK_putRowK encR 2 (Sort.ahead w n) g 0 ys.toArray d' hHn hps
    have hsz : (Sort.putRowK encR 2 (Sort.ahead w n) g 0 d').heap.size = w.heap.size := Sort.size_putRow _ _ _ _ _
    refine ⟨rfl, d'.toList, ?_, ?_, ?_, ?_, below_put hlt.1 hB⟩
    · have e1 : d'.extract 0 ys.toArray.size = d' := by rw [← hps]; simp
      have e2 : ys.toArray.extract 0 ys.toArray.size = ys.toArray := by simp
      rw [e1, e2] at hpp
      simpa using hpp
    · rw [List.pairwise_iff_getElem]
      intro i j hi hj hij
      have hi' : i < d'.size := by simpa using hi
      have hj' : j < d'.size := by simpa using hj
      have := hso i j (Nat.zero_le _) hij (by omega)
      rw [getElem!_pos d' i hi', getElem!_pos d' j hj'] at this
      simp only [ltR, decide_eq_false_iff_not] at this
      simp only [Array.getElem_toList]
      omega
    · exact Rng.later (rng_holds hH') (below_grow (Nat.le_refl _))
    · rw [Sort.cell?_grow _ _ _ (by rw [hsz]; exact hlb), Sort.cell?_putRowK_other _ _ _ _ _ _ _ (by exact hne), hs]
      exact hbb
end Go.Proofs.Ybulkbucw
