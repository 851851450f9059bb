/-
  THE B LAW, its plain part: the points of a strided range; the whole table.
-/
import Derived.Test.YbulkbucwBPlain
import Derived.Test.YbulkbucwBBuild
namespace Go.Proofs.Ybulkbucw

theorem strided_q {lo hi st : Int} (h1 : lo ≤ hi) (h2 : 1 ≤ st) : ∃ q : Nat, (hi - lo) / st = (q : Int) ∧ (q : Int) * st ≤ hi - lo := by
  obtain ⟨q, hq⟩ : ∃ q : Nat, (hi - lo) / st = (q : Int) := Int.eq_ofNat_of_zero_le (Int.ediv_nonneg (by omega) (by omega))
  exact ⟨q, hq, by rw [← hq]; exact Int.ediv_mul_le _ (by omega)⟩
theorem strided_mem {lo hi st : Int} (h1 : lo ≤ hi) (h2 : 1 ≤ st) {y : Int × Int} (hy : y ∈ strided lo hi st) : lo ≤ y.1 ∧ y.1 ≤ y.2 ∧ y.2 ≤ hi := by
  unfold strided at hy
  by_cases s1 : st = 1
  · rw [if_pos s1] at hy
    simp at hy; subst hy; simp only; omega
  · rw [if_neg s1] at hy
    obtain ⟨q, hq, hq1⟩ := strided_q h1 h2
    rw [hq] at hy
    obtain ⟨i, hi', rfl⟩ := List.mem_map.1 hy
    have hlt : i < q + 1 := by simpa using List.mem_range.1 hi'
    have a : (i : Int) * st ≤ (q : Int) * st := Int.mul_le_mul_of_nonneg_right (by omega) (by omega)
    have b : 0 ≤ (i : Int) * st := Int.mul_nonneg (by omega) (by omega)
    simp only
    omega
theorem strided_len {lo hi st : Int} (h1 : lo ≤ hi) (h2 : 1 ≤ st) (h3 : hi ≤ lo + 99) : 1 ≤ (strided lo hi st).length ∧ (strided lo hi st).length ≤ 100 := by
  unfold strided
  by_cases s1 : st = 1
  · rw [if_pos s1]; simp
  · rw [if_neg s1]
    obtain ⟨q, hq, hq1⟩ := strided_q h1 h2
    rw [hq]
    have : (q : Int) * 1 ≤ (q : Int) * st := Int.mul_le_mul_of_nonneg_left (by omega) (by omega)
    simp
    omega
theorem strided_any {lo hi st : Int} (h1 : lo ≤ hi) (h2 : 1 ≤ st) (c : Int) : (strided lo hi st).any (fun y => within y c) = (decide (lo ≤ c) && decide (c ≤ hi) && decide ((c - lo) % st = 0)) := by
  rw [Bool.eq_iff_iff, List.any_eq_true]
  simp only [Bool.and_eq_true, decide_eq_true_eq]
  constructor
  · rintro ⟨y, hy, hc⟩
    simp only [within, Bool.and_eq_true, decide_eq_true_eq] at hc
    have hb := strided_mem h1 h2 hy
    refine ⟨⟨by omega, by omega⟩, ?_⟩
    unfold strided at hy
    by_cases s1 : st = 1
    · subst s1; exact Int.emod_one _
    · rw [if_neg s1] at hy
      obtain ⟨i, _, rfl⟩ := List.mem_map.1 hy
      simp only at hc
      rw [show c - lo = (i : Int) * st by omega]
      exact Int.mul_emod_left _ _
  · rintro ⟨⟨c1, c2⟩, c3⟩
    unfold strided
    by_cases s1 : st = 1
    · rw [if_pos s1]
      exact ⟨(lo, hi), by simp, by simp [within, c1, c2]⟩
    · rw [if_neg s1]
      obtain ⟨q, hq, hq1⟩ := strided_q h1 h2
      obtain ⟨p, hp, hp1⟩ := strided_q (lo := lo) (hi := c) c1 h2
      have hle : (p : Int) ≤ q := by rw [← hp, ← hq]; exact Int.ediv_le_ediv (by omega) (by omega)
      have he : (p : Int) * st = c - lo := by
        have := Int.emod_add_mul_ediv (c - lo) st
        rw [c3, hp] at this
        rw [Int.mul_comm]; omega
      refine ⟨(lo + (p : Int) * st, lo + (p : Int) * st), List.mem_map.2 ⟨p, ?_, rfl⟩, ?_⟩
      · rw [hq]; simp; omega
      · simp [within]; omega

/-- A table's half, laid out point by point. -/
def pts (ts : List (Int × Int × Int)) : List (Int × Int) := ts.flatMap fun t => strided t.1 t.2.1 t.2.2
theorem pts_append (xs ys : List (Int × Int × Int)) : pts (xs ++ ys) = pts xs ++ pts ys := List.flatMap_append
theorem pts_one (t : Int × Int × Int) : pts [t] = strided t.1 t.2.1 t.2.2 := by simp [pts]
/-- The entries of a half that was built out of inputs. -/
def Fit (base : Int) (t : Int × Int × Int) : Prop := base ≤ t.1 ∧ t.1 ≤ base + 599 ∧ t.1 ≤ t.2.1 ∧ t.2.1 ≤ t.1 + 99 ∧ 1 ≤ t.2.2 ∧ t.2.2 ≤ 7
theorem tri_fit (x : Int × Int × Int) (base : Int) : Fit base (tri x base) := ⟨loOf_bd.1, loOf_bd.2, hiOf_bd.1, hiOf_bd.2, stOf_bd.1, stOf_bd.2⟩
theorem pts_len {base : Int} : ∀ {ts : List (Int × Int × Int)}, (∀ t ∈ ts, Fit base t) → (pts ts).length ≤ ts.length * 100 ∧ (ts ≠ [] → 1 ≤ (pts ts).length)
  | [], _ => ⟨by simp [pts], fun h => absurd rfl h⟩
  | t :: ts, h => by
    have ih := pts_len (ts := ts) fun x hx => h x (by simp [hx])
    obtain ⟨_, _, f3, f4, f5, _⟩ := h t (by simp)
    have hl := strided_len f3 f5 f4
    have e : pts (t :: ts) = strided t.1 t.2.1 t.2.2 ++ pts ts := rfl
    rw [e, List.length_append, List.length_cons]
    exact ⟨by omega, fun _ => by omega⟩
theorem pts_win {base : Int} (hb : base = 0 ∨ base = 65536) {ts : List (Int × Int × Int)} (h : ∀ t ∈ ts, Fit base t) : ∀ y ∈ pts ts, InWin y ∧ base ≤ y.1 ∧ y.2 < base + 800 := fun y hy => by
  obtain ⟨t, ht, hy⟩ := List.mem_flatMap.1 hy
  obtain ⟨f1, f2, f3, f4, f5, f6⟩ := h t ht
  have := strided_mem f3 f5 hy
  unfold InWin
  omega
/-- The points of a half: those that the inputs hold. -/
theorem pts_any (xs : List (Int × Int × Int)) (base c : Int) : (pts (xs.map (tri · base))).any (fun y => within y c) = xs.any (fun x => hit x base c) := by
  induction xs with
  | nil => rfl
  | cons x xs ih =>
    obtain ⟨f1, f2, f3, f4, f5, f6⟩ := tri_fit x base
    have e : pts ((x :: xs).map (tri · base)) = strided (tri x base).1 (tri x base).2.1 (tri x base).2.2 ++ pts (xs.map (tri · base)) := rfl
    rw [e, List.any_append, ih, List.any_cons, strided_any f3 f5]
    rfl
theorem any_out {ys : List (Int × Int)} {c : Int} (h : ∀ y ∈ ys, ¬ (y.1 ≤ c ∧ c ≤ y.2)) : ys.any (fun y => within y c) = false := by
  rw [List.any_eq_false]
  intro y hy
  have := h y hy
  simp only [within, Bool.and_eq_true, decide_eq_true_eq]
  exact this
/-- What the law asks of the set that was made. -/
theorem made_good (xs zs : List (Int × Int × Int)) (ys : List (Int × Int)) (hp : ys.Perm (pts (xs.map (tri · 0)) ++ pts (zs.map (tri · 65536)))) (hs : ys.Pairwise fun x y => x.1 ≤ y.1) :
    Well (merge ys) ∧ (∀ c, 0 ≤ c → c < 800 → (merge ys).any (fun y => within y c) = xs.any (fun x => hit x 0 c)) ∧ ∀ c, 65536 ≤ c → c < 66336 → (merge ys).any (fun y => within y c) = zs.any (fun x => hit x 65536 c) := by
  have w1 := pts_win (base := 0) (.inl rfl) (ts := xs.map (tri · 0)) fun t ht => by obtain ⟨x, _, rfl⟩ := List.mem_map.1 ht; exact tri_fit x 0
  have w2 := pts_win (base := 65536) (.inr rfl) (ts := zs.map (tri · 65536)) fun t ht => by obtain ⟨x, _, rfl⟩ := List.mem_map.1 ht; exact tri_fit x 65536
  obtain ⟨g1, g2, _⟩ := merge_good ys hs fun y hy => by
    rcases List.mem_append.1 (hp.mem_iff.1 hy) with h | h
    · exact (w1 y h).1
    · exact (w2 y h).1
  have ha : ∀ c, (merge ys).any (fun y => within y c) = ((pts (xs.map (tri · 0))).any (fun y => within y c) || (pts (zs.map (tri · 65536))).any (fun y => within y c)) := fun c => by
    rw [g2 c, hp.any_eq, List.any_append]
  refine ⟨g1, fun c c0 c1 => ?_, fun c c0 c1 => ?_⟩
  · rw [ha, pts_any xs, any_out (fun y hy => by have := (w2 y hy).2; omega), Bool.or_false]
  · rw [ha, pts_any zs, any_out (ys := pts (xs.map (tri · 0))) (fun y hy => by have := (w1 y hy).2; omega), Bool.false_or]
end Go.Proofs.Ybulkbucw
