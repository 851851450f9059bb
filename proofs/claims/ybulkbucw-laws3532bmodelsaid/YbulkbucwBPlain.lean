/-
  THE B LAW, its plain part: ranges merged in ascending order.
-/
import Derived.Test.YbulkbucwBStride
namespace Go.Proofs.Ybulkbucw

/-- Lists, built at their end. -/
theorem snoc_ind {α : Type} {motive : List α → Prop} (h0 : motive []) (h1 : ∀ xs r, motive xs → motive (xs ++ [r])) (xs : List α) : motive xs := by
  obtain ⟨n, hn⟩ : ∃ n, xs.length = n := ⟨_, rfl⟩
  induction n generalizing xs with
  | zero => rw [List.eq_nil_of_length_eq_zero hn]; exact h0
  | succ n ih =>
    rcases List.eq_nil_or_concat xs with e | ⟨ys, r, e⟩
    · rw [e] at hn; simp at hn
    · rw [List.concat_eq_append] at e
      subst e
      exact h1 ys r (ih ys (by simpa using hn))
/-- One range more onto the merged ones. -/
def mstep (out : List (Int × Int)) (r : Int × Int) : List (Int × Int) :=
  match out.getLast? with
  | none => out ++ [r]
  | some l => if r.1 ≤ l.2 + 1 then out.dropLast ++ [(l.1, max l.2 r.2)] else out ++ [r]
def merge (xs : List (Int × Int)) : List (Int × Int) := xs.foldl mstep []
theorem merge_snoc (xs : List (Int × Int)) (r : Int × Int) : merge (xs ++ [r]) = mstep (merge xs) r := by unfold merge; rw [List.foldl_append]; rfl
theorem mstep_nil (r : Int × Int) : mstep [] r = [r] := rfl
theorem mstep_in (ms : List (Int × Int)) (l u : Int) (r : Int × Int) (h : r.1 ≤ u + 1) : mstep (ms ++ [(l, u)]) r = ms ++ [(l, max u r.2)] := by
  unfold mstep; rw [List.getLast?_concat, List.dropLast_concat]; simp [h]
theorem mstep_out (ms : List (Int × Int)) (l u : Int) (r : Int × Int) (h : ¬ r.1 ≤ u + 1) : mstep (ms ++ [(l, u)]) r = ms ++ [(l, u)] ++ [r] := by
  unfold mstep; rw [List.getLast?_concat]; simp [h]
theorem snoc_cases (ms : List (Int × Int)) : ms = [] ∨ ∃ ms0 l u, ms = ms0 ++ [(l, u)] := by
  rcases List.eq_nil_or_concat ms with e | ⟨ms0, ⟨l, u⟩, e⟩
  · exact .inl e
  · exact .inr ⟨ms0, l, u, by rw [e, List.concat_eq_append]⟩
theorem merge_len (xs : List (Int × Int)) : (merge xs).length ≤ xs.length := by
  induction xs using snoc_ind with
  | h0 => simp [merge]
  | h1 xs r ih =>
    rw [merge_snoc]
    rcases snoc_cases (merge xs) with e | ⟨ms0, l, u, e⟩
    · rw [e, mstep_nil]; simp
    · rw [e] at ih ⊢
      by_cases h : r.1 ≤ u + 1
      · rw [mstep_in _ _ _ _ h]; simp at ih ⊢; omega
      · rw [mstep_out _ _ _ _ h]; simp at ih ⊢; omega
/-- Small numbers. -/
def Small (y : Int × Int) : Prop := 0 ≤ y.1 ∧ y.1 ≤ 70000 ∧ 0 ≤ y.2 ∧ y.2 ≤ 70000
theorem merge_small {xs : List (Int × Int)} (h : ∀ y ∈ xs, Small y) : ∀ y ∈ merge xs, Small y := by
  induction xs using snoc_ind with
  | h0 => intro y hy; simp [merge] at hy
  | h1 xs r ih =>
    have hr : Small r := h r (by simp)
    have ih := ih fun y hy => h y (by simp [hy])
    rw [merge_snoc]
    rcases snoc_cases (merge xs) with e | ⟨ms0, l, u, e⟩
    · rw [e, mstep_nil]; intro y hy; simp at hy; subst hy; exact hr
    · rw [e] at ih ⊢
      have hl : Small (l, u) := ih (l, u) (by simp)
      by_cases hc : r.1 ≤ u + 1
      · rw [mstep_in _ _ _ _ hc]
        intro y hy
        rcases List.mem_append.1 hy with h1 | h1
        · exact ih y (by simp [h1])
        · simp at h1; subst h1
          unfold Small at *; simp only at *; omega
      · rw [mstep_out _ _ _ _ hc]
        intro y hy
        rcases List.mem_append.1 hy with h1 | h1
        · exact ih y h1
        · simp at h1; subst h1; exact hr

theorem well_nil : Well [] := fun i y hy => by simp at hy
theorem well_snoc {ms : List (Int × Int)} {r : Int × Int} (h : Well ms) (hr : InWin r) (hg : ∀ l, ms.getLast? = some l → l.2 + 1 < r.1) : Well (ms ++ [r]) := fun i y hy => by
  rcases Nat.lt_trichotomy i ms.length with hi | hi | hi
  · rw [List.getElem?_append_left hi] at hy
    refine ⟨(h i y hy).1, fun z hz hp => ?_⟩
    rw [List.getElem?_append_left (by omega)] at hz
    exact (h i y hy).2 z hz hp
  · subst hi
    rw [List.getElem?_append_right (by omega)] at hy
    simp only [Nat.sub_self, List.getElem?_cons_zero, Option.some.injEq] at hy
    subst hy
    refine ⟨hr, fun z hz hp => hg z ?_⟩
    rw [List.getElem?_append_left (by omega)] at hz
    rw [List.getLast?_eq_getElem?]; exact hz
  · rw [List.getElem?_append_right (by omega), List.getElem?_eq_none (by simp; omega)] at hy; cases hy
theorem well_head {ms : List (Int × Int)} {r : Int × Int} (h : Well (ms ++ [r])) : Well ms ∧ InWin r ∧ ∀ l, ms.getLast? = some l → l.2 + 1 < r.1 := by
  refine ⟨fun i y hy => ?_, ?_, fun l hl => ?_⟩
  · have hi := (List.getElem?_eq_some_iff.1 hy).1
    have := h i y (by rw [List.getElem?_append_left hi]; exact hy)
    refine ⟨this.1, fun z hz hp => this.2 z (by rw [List.getElem?_append_left (by omega)]; exact hz) hp⟩
  · exact (h ms.length r (by simp)).1
  · have hp : 0 < ms.length := by
      rcases Nat.eq_zero_or_pos ms.length with e | e
      · rw [List.eq_nil_of_length_eq_zero e] at hl; simp at hl
      · exact e
    refine (h ms.length r (by simp)).2 l ?_ hp
    rw [List.getLast?_eq_getElem?] at hl
    rw [List.getElem?_append_left (by omega)]; exact hl
/-- Ascending ranges, merged: well formed, and the same points. -/
theorem merge_good (xs : List (Int × Int)) (hs : xs.Pairwise fun x y => x.1 ≤ y.1) (hw : ∀ x ∈ xs, InWin x) :
    Well (merge xs) ∧ (∀ c, (merge xs).any (fun y => within y c) = xs.any (fun y => within y c)) ∧ ∀ m ∈ merge xs, ∃ x ∈ xs, m.1 = x.1 := by
  induction xs using snoc_ind with
  | h0 => exact ⟨well_nil, fun _ => rfl, fun m hm => by simp [merge] at hm⟩
  | h1 xs r ih =>
    rw [List.pairwise_append] at hs
    have hr : InWin r := hw r (by simp)
    obtain ⟨iw, ia, il⟩ := ih hs.1 fun x hx => hw x (by simp [hx])
    have hlo : ∀ m ∈ merge xs, m.1 ≤ r.1 := fun m hm => by
      obtain ⟨x, hx, e⟩ := il m hm
      rw [e]; exact hs.2.2 x hx r (by simp)
    rw [merge_snoc]
    rcases snoc_cases (merge xs) with e | ⟨ms0, l, u, e⟩
    · rw [e, mstep_nil]
      rw [e] at ia
      refine ⟨well_snoc well_nil hr (fun l hl => by simp at hl), fun c => ?_, fun m hm => ⟨r, by simp, by simp at hm; rw [hm]⟩⟩
      rw [List.any_append, ← ia c]; simp
    · rw [e] at iw ia il hlo ⊢
      have hl1 : l ≤ r.1 := hlo (l, u) (by simp)
      obtain ⟨w1, w2, w3⟩ := well_head iw
      by_cases hc : r.1 ≤ u + 1
      · rw [mstep_in _ _ _ _ hc]
        refine ⟨well_snoc w1 ?_ w3, fun c => ?_, fun m hm => ?_⟩
        · unfold InWin at *; simp only at *; omega
        · rw [List.any_append (xs := xs), ← ia c, List.any_append, List.any_append, Bool.or_assoc]
          congr 1
          have h1 := hr.1
          simp only [List.any_cons, List.any_nil, Bool.or_false, within]
          rw [Bool.eq_iff_iff]
          simp only [Bool.or_eq_true, Bool.and_eq_true, decide_eq_true_eq]
          have w21 := w2.1
          simp only at w21
          omega
        · rcases List.mem_append.1 hm with h1 | h1
          · obtain ⟨x, hx, e'⟩ := il m (by simp [h1]); exact ⟨x, by simp [hx], e'⟩
          · simp at h1
            obtain ⟨x, hx, e'⟩ := il (l, u) (by simp)
            exact ⟨x, by simp [hx], by rw [h1]; exact e'⟩
      · rw [mstep_out _ _ _ _ hc]
        refine ⟨well_snoc iw hr (fun z hz => ?_), fun c => ?_, fun m hm => ?_⟩
        · rw [List.getLast?_concat] at hz
          cases hz; simp only; omega
        · rw [List.any_append, List.any_append (xs := xs), ia c]
        · rcases List.mem_append.1 hm with h1 | h1
          · obtain ⟨x, hx, e'⟩ := il m h1; exact ⟨x, by simp [hx], e'⟩
          · simp at h1; exact ⟨r, by simp, by rw [h1]⟩
end Go.Proofs.Ybulkbucw
