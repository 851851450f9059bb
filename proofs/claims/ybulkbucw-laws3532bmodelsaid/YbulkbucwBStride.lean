/-
  THE B LAW's appendStrided: one range, or its points one by one, appended.
-/
import Derived.Test.YbulkbucwBSmall
import Derived.Deep.AppendLies
import Derived.Lib.SmallJoins
namespace Go.Proofs.Ybulkbucw
open Go.RowKit

/-- The cells of a set of ranges. -/
def enc2 (ys : List (Int × Int)) : List Value := ys.flatMap fun y => [.int .i32 y.1, .int .i32 y.2]
theorem enc2_append (xs ys : List (Int × Int)) : enc2 (xs ++ ys) = enc2 xs ++ enc2 ys := List.flatMap_append
theorem enc2_len (ys : List (Int × Int)) : (enc2 ys).length = ys.length * 2 := by
  induction ys with
  | nil => rfl
  | cons y ys ih => show (enc2 ys).length + 1 + 1 = _; rw [ih]; simp; omega
theorem enc2_get {ys : List (Int × Int)} {i : Nat} {y : Int × Int} (h : ys[i]? = some y) : (enc2 ys)[i * 2]? = some (.int .i32 y.1) ∧ (enc2 ys)[i * 2 + 1]? = some (.int .i32 y.2) := by
  induction ys generalizing i with
  | nil => simp at h
  | cons z ys ih =>
    have e : enc2 (z :: ys) = Value.int .i32 z.1 :: Value.int .i32 z.2 :: enc2 ys := rfl
    cases i with
    | zero =>
      simp only [List.getElem?_cons_zero, Option.some.injEq] at h
      subst h
      rw [e]
      exact ⟨rfl, rfl⟩
    | succ i =>
      rw [List.getElem?_cons_succ] at h
      obtain ⟨h1, h2⟩ := ih h
      rw [e, show (i + 1) * 2 = (i * 2) + 1 + 1 by omega]
      exact ⟨h1, h2⟩
/-- A set of ranges in a row that the call itself has made. -/
def Own2 (w : World) (B : Nat) (v : Value) (ys : List (Int × Int)) : Prop := w.ownsRow B 38 2 v ys.length (enc2 ys)
theorem Yba.info38 : (Yba.prog.info? 38).map (fun i => (i.zero, i.size, i.bytes)) = some (some (.agg #[.int .i32 0, .int .i32 0]), 2, 8) := by kernel_rfl
theorem Own2.rng {w : World} {B : Nat} {a : Option Addr} {n cap : Nat} {ys : List (Int × Int)} (h : Own2 w B (.slice a n cap) ys) : Rng w a ys := fun i y hy => by
  have hl := (List.getElem?_eq_some_iff.1 hy).1
  obtain ⟨g, c, e, _, _⟩ := World.ownsRow.form h (by omega)
  cases e
  obtain ⟨h1, h2⟩ := enc2_get hy
  have k1 := World.ownsRow.cells h (g := g) rfl _ _ h1
  have k2 := World.ownsRow.cells h (g := g) rfl _ _ h2
  rw [Addr.add_lit] at k1 k2
  exact ⟨g, 0, rfl, k1, k2⟩
theorem Own2.form {w : World} {B : Nat} {v : Value} {ys : List (Int × Int)} (h : Own2 w B v ys) : ∃ a cap, v = .slice a ys.length cap ∧ ys.length ≤ cap ∧ ((a = none ∧ ys = [] ∧ cap = 0) ∨ ∃ g, a = some ⟨g, 0, none⟩ ∧ B ≤ g ∧ g < w.heap.size) := by
  rcases h.2 with ⟨rfl, h0⟩ | ⟨g, cap, cur, rfl, hb, hg, h1, _⟩
  · exact ⟨none, 0, by rw [h0], by omega, .inl ⟨rfl, List.eq_nil_of_length_eq_zero h0, rfl⟩⟩
  · exact ⟨_, cap, rfl, h1, .inr ⟨g, rfl, hb, (Array.getElem?_eq_some_iff.1 hg).1⟩⟩
theorem Own2.nil (w : World) (B : Nat) : Own2 w B (.slice none 0 0) [] := World.ownsRow_nil _ _ _ _
theorem cells2_new (w : World) (u v : Value) (ty : TypeId) (j : Nat) (x : Value) (hx : [u, v][j]? = some x) : (w.alloc (.cells #[u, v] ty)).cell? ((⟨w.heap.size, 0, none⟩ : Addr).add j) = some x :=
  World.news_of_block (heap_alloc_new w (.cells #[u, v] ty)) j x hx
theorem one2 (l h : Int) : ∀ u ∈ ([.int .i32 l, .int .i32 h] : List Value), u.oneCell' = true := by
  intro u hu
  simp only [List.mem_cons, List.not_mem_nil, or_false] at hu
  rcases hu with rfl | rfl <;> rfl
/-- One range more. -/
theorem Own2.push {w' : World} {B g cap : Nat} {ys : List (Int × Int)} {l h : Int} (hown : w'.ownsRow B 38 2 (.slice (some ⟨g, 0, none⟩) (ys.length + 1) cap) (ys.length + 1) (enc2 ys ++ [.int .i32 l, .int .i32 h])) : Own2 w' B (.slice (some ⟨g, 0, none⟩) (ys.length + 1) cap) (ys ++ [(l, h)]) := by
  unfold Own2
  rw [List.length_append, enc2_append]
  exact hown

/-- The points of a range, as appendStrided lays them. -/
def strided (lo hi st : Int) : List (Int × Int) := if st = 1 then [(lo, hi)] else (List.range (((hi - lo) / st).toNat + 1)).map fun i : Nat => (lo + (i : Int) * st, lo + (i : Int) * st)
theorem range_snoc (f : Nat → Int × Int) (k : Nat) : (List.range (k + 1)).map f = (List.range k).map f ++ [f k] := by rw [List.range_succ, List.map_append]; rfl

set_option maxRecDepth 100000 in
set_option maxHeartbeats 1000000 in
theorem stride_call (B : Nat) (a : Option Addr) (cap : Nat) (ys : List (Int × Int)) (lo hi st : Int) (w : World) (hB : B ≤ w.heap.size) (hown : Own2 w B (.slice a ys.length cap) ys) (hy : ys.length ≤ 100000)
    (b0 : 0 ≤ lo) (b1 : lo ≤ hi) (b2 : hi ≤ 70000) (b3 : hi ≤ lo + 99) (b4 : 1 ≤ st) (b5 : st ≤ 7) :
    Calls Yba.prog 14 #[.slice a ys.length cap, .int .i32 lo, .int .i32 hi, .int .i32 st] w fun e w' => ∃ a' cap', e = .returned (.slice a' (ys ++ strided lo hi st).length cap') ∧ Own2 w' B (.slice a' (ys ++ strided lo hi st).length cap') (ys ++ strided lo hi st) ∧ Below B w w' := by
  obtain ⟨i0, hi0, hz0, hz1, hz2⟩ := info_parts Yba.info38
  have OW : Hid (Own2 w B (.slice a ys.length cap) ys) := hown
  clear hown
  by_cases s1 : st = 1
  · subst s1
    go_enter Yba.func14, Yba.ntmps14
    go_wp2_with (at_builtin; refine wpList_append_lies _ rfl _ _ 24 rfl B 38 i0 (.agg #[.int .i32 0, .int .i32 0]) 2 8 Yba.underlying24 hi0 hz0 hz1 hz2 rfl (by decide) _ _ _ rfl (World.ownsRow.alloc OW.out _) ⟨w.heap.size, 0, none⟩ 1 1 [.int .i32 lo, .int .i32 hi] rfl rfl (cells2_new _ _ _ _) (one2 _ _) (by decide) ?qc4 ?qc5 ?qc6 (w.heap.size + 1) ?qcH ?_)
    case qc4 => unfold maxLen; omega
    case qc5 => omega
    case qc6 => simp; omega
    case qcH => simp
    intro g5 cap5 w5 hown hgrow hat hl5
    have P : Hid (Own2 w5 B (.slice (some ⟨g5, 0, none⟩) (ys.length + 1) cap5) (ys ++ [(lo, hi)])) := Own2.push hown
    have BE : Hid (Below B w w5) := ((Below.refl _ _).alloc hB _).grown hgrow (by simp; omega) fun k hk => (World.ownsRow.lt OW.out k hk).1
    clear hown hgrow hat hl5
    go_wp2_with fail
    go_ret
    refine ⟨some ⟨g5, 0, none⟩, cap5, ?_, ?_, BE.out⟩
    · simp [strided]
    · have := P.out; simpa [strided] using this
  · have s1' : (st == 1) = false := by simpa using s1
    obtain ⟨q, hq⟩ : ∃ q : Nat, (hi - lo) / st = (q : Int) := Int.eq_ofNat_of_zero_le (Int.ediv_nonneg (by omega) (by omega))
    have hq1 : (q : Int) * st ≤ hi - lo := by rw [← hq]; exact Int.ediv_mul_le _ (by omega)
    have hq2 : hi - lo < ((q : Int) + 1) * st := by rw [← hq]; exact Int.lt_ediv_add_one_mul_self _ (by omega)
    have hst : Hid (strided lo hi st = (List.range (q + 1)).map fun i : Nat => (lo + (i : Int) * st, lo + (i : Int) * st)) := by
      unfold Hid strided; rw [if_neg s1, hq]; rfl
    have HQ : Hid ((q : Int) * st ≤ hi - lo ∧ hi - lo < ((q : Int) + 1) * st) := ⟨hq1, hq2⟩
    have hq9 : q ≤ 100 := by
      have : (q : Int) * 1 ≤ (q : Int) * st := Int.mul_le_mul_of_nonneg_left (by omega) (by omega)
      omega
    clear hq hq1 hq2
    go_enter Yba.func14, Yba.ntmps14
    go_wp2_with fail
    go_loopw [0, 9] (fun s r wr => ∃ (k : Nat) (rk : Int) (a' : Option Addr) (cap' : Nat), k ≤ q + 1 ∧ s = .slice a' (ys.length + k) cap' ∧ r = .int .i32 rk ∧ rk = lo + (k : Int) * st ∧ Own2 wr B (.slice a' (ys.length + k) cap') (ys ++ (List.range k).map fun i : Nat => (lo + (i : Int) * st, lo + (i : Int) * st)) ∧ Below B w wr) (fun _ r _ => (hi + 8 - intOf r).toNat)
    case atStart => exact ⟨0, lo, a, cap, Nat.zero_le _, rfl, rfl, by simp, by have := OW.out; simpa using this, Below.refl _ _⟩
    case round =>
      clear OW
      obtain ⟨k, rk, a', cap', hk, rfl, rfl, hrk, hO, hBe⟩ := hrel
      have BE : Hid (Below B w wr) := hBe
      obtain ⟨zs, hzs⟩ : ∃ zs, (ys ++ (List.range k).map fun i : Nat => (lo + (i : Int) * st, lo + (i : Int) * st)) = zs := ⟨_, rfl⟩
      have hzl : zs.length = ys.length + k := by rw [← hzs]; simp
      have OZ : Hid (Own2 wr B (.slice a' zs.length cap') zs) := by rw [hzl, ← hzs]; exact hO
      have HZL : Hid (zs.length = ys.length + k) := hzl
      have HZ : Hid ((ys ++ (List.range k).map fun i : Nat => (lo + (i : Int) * st, lo + (i : Int) * st)) = zs) := hzs
      have HR : Hid (rk = lo + (k : Int) * st) := hrk
      have r0 : lo ≤ rk := by
        have : 0 ≤ (k : Int) * st := Int.mul_nonneg (by omega) (by omega)
        omega
      clear hO hBe hzs
      by_cases hkq : k ≤ q
      · have r1 : rk ≤ hi := by
          have : (k : Int) * st ≤ (q : Int) * st := Int.mul_le_mul_of_nonneg_right (by omega) (by omega)
          have := HQ.out.1
          omega
        have hzm : zs.length ≤ 100200 := by omega
        rw [← hzl]
        clear hrk hzl
        go_wp2_with (at_builtin; refine wpList_append_lies _ rfl _ _ 24 rfl B 38 i0 (.agg #[.int .i32 0, .int .i32 0]) 2 8 Yba.underlying24 hi0 hz0 hz1 hz2 rfl (by decide) _ _ _ rfl (World.ownsRow.alloc OZ.out _) ⟨wr.heap.size, 0, none⟩ 1 1 [.int .i32 rk, .int .i32 rk] rfl rfl (cells2_new _ _ _ _) (one2 _ _) (by decide) ?qc4 ?qc5 ?qc6 (wr.heap.size + 1) ?qcH ?_)
        case qc4 => unfold maxLen; omega
        case qc5 => omega
        case qc6 => have := BE.out.size; simp; omega
        case qcH => simp
        intro g5 cap5 w5 hown hgrow hat hl5
        have P : Hid (Own2 w5 B (.slice (some ⟨g5, 0, none⟩) (zs.length + 1) cap5) (zs ++ [(rk, rk)])) := Own2.push hown
        have BE5 : Hid (Below B w w5) := (BE.out.alloc (by have := BE.out.size; omega) _).grown hgrow (by have := BE.out.size; simp; omega) fun k hk => (World.ownsRow.lt OZ.out k hk).1
        clear hown hgrow hat hl5
        go_wp2_with fail
        go_roundw
        case rel =>
          refine ⟨k + 1, _, _, cap5, by omega, by rw [HZL.out]; rfl, rfl, ?_, ?_, BE5.out⟩
          · rw [HR.out, show ((k + 1 : Nat) : Int) = (k : Int) + 1 by omega, Int.add_mul]; omega
          · rw [range_snoc, ← List.append_assoc, HZ.out, ← HR.out, show ys.length + (k + 1) = zs.length + 1 by rw [HZL.out]; omega]
            exact P.out
        case measure => simp [intOf]; omega
      · obtain rfl : k = q + 1 := by omega
        have r1 : ¬ rk ≤ hi := by
          have := HQ.out.2
          have e : ((q + 1 : Nat) : Int) = (q : Int) + 1 := by omega
          rw [e] at hrk
          omega
        rw [← hzl]
        clear hrk hzl
        go_wp2_with fail
        go_ret
        refine ⟨a', cap', ?_, ?_, BE.out⟩
        · have e := HZL.out
          rw [hst.out, List.length_map, List.length_range, ← e]; rfl
        · rw [hst.out, HZ.out, List.length_map, List.length_range, ← HZL.out]; exact OZ.out
end Go.Proofs.Ybulkbucw
