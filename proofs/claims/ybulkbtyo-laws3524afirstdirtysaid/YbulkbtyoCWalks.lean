/-
  THE WALKS of the C law's functions: cmp.Compare, slices.Compare, slices.Equal at the named slice type, the law's own 'less', 'before' at two instances that are not empty.
-/
import Derived.Test.YbulkbtyoClone
import Derived.BigQuiet
namespace Go.Proofs.Ybulkbtyo
open Go.RowKit

/-- Block g begins with the numbers p. -/
def Reads (w : World) (g : Nat) (p : List Int) : Prop := ∀ (j : Nat) (v : Int), p[j]? = some v → w.cell? ⟨g, j, none⟩ = some (.int .i64 v)
/-- The lexicographic order, as a number. -/
def cmpL : List Int → List Int → Int
  | [], [] => 0
  | [], _ :: _ => -1
  | _ :: _, [] => 1
  | a :: p, b :: q => if a < b then -1 else if b < a then 1 else cmpL p q
/-- The lexicographic order, as a test. -/
def lessL : List Int → List Int → Bool
  | [], [] => false
  | [], _ :: _ => true
  | _ :: _, [] => false
  | a :: p, b :: q => if a = b then lessL p q else decide (a < b)
theorem lessL_iff : ∀ p q : List Int, lessL p q = true ↔ cmpL p q < 0
  | [], [] => by simp [lessL, cmpL]
  | [], _ :: _ => by simp [lessL, cmpL]
  | _ :: _, [] => by simp [lessL, cmpL]
  | a :: p, b :: q => by
    have ih := lessL_iff p q
    have e1 : cmpL (a :: p) (b :: q) = if a < b then -1 else if b < a then 1 else cmpL p q := rfl
    have e2 : lessL (a :: p) (b :: q) = if a = b then lessL p q else decide (a < b) := rfl
    rw [e1, e2]
    by_cases h1 : a < b
    · rw [if_pos h1, if_neg (by omega)]; simp [h1]
    · by_cases h2 : b < a
      · rw [if_neg h1, if_pos h2, if_neg (by omega)]; simp [h1]
      · rw [if_neg h1, if_neg h2, if_pos (by omega)]; exact ih
theorem cmpL_less (p q : List Int) : decide (cmpL p q < 0) = lessL p q := by
  rw [Bool.eq_iff_iff, lessL_iff]; simp

theorem drop_cons (p : List Int) (n : Nat) (a : Int) (h : p[n]? = some a) : p.drop n = a :: p.drop (n + 1) := by
  obtain ⟨hn, rfl⟩ := List.getElem?_eq_some_iff.1 h
  exact List.drop_eq_getElem_cons hn
theorem at_lt (p : List Int) (n : Nat) (h : n < p.length) : ∃ a, p[n]? = some a := ⟨p[n], List.getElem?_eq_getElem h⟩

/-- How far a comparison has come: the first n are alike. -/
def CAt (p q : List Int) (n : Nat) : Prop := n ≤ p.length ∧ n ≤ q.length ∧ cmpL p q = cmpL (p.drop n) (q.drop n) ∧ lessL p q = lessL (p.drop n) (q.drop n)
theorem CAt.start (p q : List Int) : CAt p q 0 := ⟨Nat.zero_le _, Nat.zero_le _, rfl, rfl⟩
theorem CAt.step {p q : List Int} {n : Nat} {a : Int} (h : CAt p q n) (ha : p[n]? = some a) (hb : q[n]? = some a) : CAt p q (n + 1) := by
  obtain ⟨_, _, h3, h4⟩ := h
  have l1 := (List.getElem?_eq_some_iff.1 ha).1
  have l2 := (List.getElem?_eq_some_iff.1 hb).1
  refine ⟨by omega, by omega, ?_, ?_⟩
  · rw [h3, drop_cons p n a ha, drop_cons q n a hb]; simp [cmpL]
  · rw [h4, drop_cons p n a ha, drop_cons q n a hb]; simp [lessL]
theorem CAt.lt {p q : List Int} {n : Nat} {a b : Int} (h : CAt p q n) (ha : p[n]? = some a) (hb : q[n]? = some b) (hl : a < b) : cmpL p q = -1 ∧ lessL p q = true := by
  obtain ⟨_, _, h3, h4⟩ := h
  rw [h3, h4, drop_cons p n a ha, drop_cons q n b hb]
  simp only [cmpL, lessL]
  rw [if_pos hl, if_neg (by omega)]; simp [hl]
theorem CAt.gt {p q : List Int} {n : Nat} {a b : Int} (h : CAt p q n) (ha : p[n]? = some a) (hb : q[n]? = some b) (hl : b < a) : cmpL p q = 1 ∧ lessL p q = false := by
  obtain ⟨_, _, h3, h4⟩ := h
  rw [h3, h4, drop_cons p n a ha, drop_cons q n b hb]
  simp only [cmpL, lessL]
  rw [if_neg (by omega), if_pos hl, if_neg (by omega)]; simp; omega
theorem CAt.endq {p q : List Int} {n : Nat} (h : CAt p q n) (hp : n < p.length) (hq : q.length ≤ n) : cmpL p q = 1 ∧ lessL p q = false := by
  obtain ⟨_, _, h3, h4⟩ := h
  obtain ⟨a, ha⟩ := at_lt p n hp
  rw [h3, h4, drop_cons p n a ha, List.drop_eq_nil_of_le hq]
  exact ⟨rfl, rfl⟩
theorem CAt.endp {p q : List Int} {n : Nat} (h : CAt p q n) (hp : p.length ≤ n) (hq : n < q.length) : cmpL p q = -1 ∧ lessL p q = true := by
  obtain ⟨_, _, h3, h4⟩ := h
  obtain ⟨a, ha⟩ := at_lt q n hq
  rw [h3, h4, drop_cons q n a ha, List.drop_eq_nil_of_le hp]
  exact ⟨rfl, rfl⟩
theorem CAt.both {p q : List Int} {n : Nat} (h : CAt p q n) (hp : p.length ≤ n) (hq : q.length ≤ n) : cmpL p q = 0 ∧ lessL p q = false := by
  obtain ⟨_, _, h3, h4⟩ := h
  rw [h3, h4, List.drop_eq_nil_of_le hp, List.drop_eq_nil_of_le hq]
  exact ⟨rfl, rfl⟩

theorem CAt.diff {p q : List Int} {n : Nat} {a b : Int} (h : CAt p q n) (ha : p[n]? = some a) (hb : q[n]? = some b) (hne : ¬ a = b) : lessL p q = decide (a < b) := by
  by_cases l : a < b
  · rw [(h.lt ha hb l).2]; simp [l]
  · rw [(h.gt ha hb (by omega)).2]; simp [l]
theorem CAt.done {p q : List Int} {n : Nat} (h : CAt p q n) (hn : ¬ (n < q.length ∧ n < p.length)) : lessL p q = decide (p.length < q.length) := by
  have h1 := h.1
  have h2 := h.2.1
  by_cases l : p.length < q.length
  · rw [(h.endp (by omega) (by omega)).2]; simp [l]
  · by_cases l' : p.length = q.length
    · rw [(h.both (by omega) (by omega)).2]; simp [l]
    · rw [(h.endq (by omega) (by omega)).2]; simp [l]
theorem drew2 (w : World) (a b : Nat) : ∃ m, (w.drewN a).drewN b = w.drewN m := ⟨a + b, World.drewN_drewN _ _ _⟩
theorem drew3 (w : World) (a b c : Nat) : ∃ m, ((w.drewN a).drewN b).drewN c = w.drewN m := ⟨a + (b + c), by rw [World.drewN_drewN, World.drewN_drewN]⟩
theorem ret_i64 {a b : Int} (h : a = b) : Ending.returned (.int .i64 a) = .returned (.int .i64 b) := by rw [h]
theorem ret_bool {a b : Bool} (h : a = b) : Ending.returned (.bool a) = .returned (.bool b) := by rw [h]

set_option maxHeartbeats 400000 in
theorem nan_any (x : Int) (w : World) : Calls Yba.prog 20 #[.int .i64 x] w fun e w' => e = .returned (.bool false) ∧ w' = w := by
  go_enter Yba.func20, Yba.ntmps20
  go_wp2
  go_ret
  exact ⟨by simp, rfl⟩
set_option maxHeartbeats 400000 in
theorem compare_lt (x y : Int) (w : World) (h : x < y) : Calls Yba.prog 17 #[.int .i64 x, .int .i64 y] w fun e w' => e = .returned (.int .i64 (-1)) ∧ w' = w := by
  go_enter Yba.func17, Yba.ntmps17
  go_wp2_with (go_at_call 20; refine (nan_any _ _).mono ?_; rintro e w' ⟨rfl, rfl⟩)
  go_ret
  exact ⟨rfl, rfl⟩
set_option maxHeartbeats 400000 in
theorem compare_gt (x y : Int) (w : World) (h : y < x) : Calls Yba.prog 17 #[.int .i64 x, .int .i64 y] w fun e w' => e = .returned (.int .i64 1) ∧ w' = w := by
  go_enter Yba.func17, Yba.ntmps17
  go_wp2_with (go_at_call 20; refine (nan_any _ _).mono ?_; rintro e w' ⟨rfl, rfl⟩)
  go_ret
  exact ⟨rfl, rfl⟩
set_option maxHeartbeats 400000 in
theorem compare_eq (x : Int) (w : World) : Calls Yba.prog 17 #[.int .i64 x, .int .i64 x] w fun e w' => e = .returned (.int .i64 0) ∧ w' = w := by
  go_enter Yba.func17, Yba.ntmps17
  go_wp2_with (go_at_call 20; refine (nan_any _ _).mono ?_; rintro e w' ⟨rfl, rfl⟩)
  go_ret
  exact ⟨rfl, rfl⟩

set_option maxHeartbeats 1000000 in
/-- slices.Compare at two instances. -/
theorem scompare (g h c1 c2 : Nat) (p q : List Int) (w : World) (hp : p.length ≤ 2000) (Hp : Reads w g p) (Hq : Reads w h q) :
    Calls Yba.prog 14 #[.slice (some ⟨g, 0, none⟩) p.length c1, .slice (some ⟨h, 0, none⟩) q.length c2] w fun e w' => e = .returned (.int .i64 (cmpL p q)) ∧ w' = w := by
  have HP : Hid (Reads w g p) := Hp
  have HQ : Hid (Reads w h q) := Hq
  clear Hp Hq
  go_enter Yba.func14, Yba.ntmps14
  go_wp2
  go_loop [11] (fun i => ∃ n : Nat, CAt p q n ∧ i = .int .i64 n) (fun i => p.length - (intOf i).toNat)
  case atStart => exact ⟨0, CAt.start p q, rfl⟩
  case round =>
    obtain ⟨n, hc, rfl⟩ := hrel
    have hn1 := hc.1
    have hn2 := hc.2.1
    have HC : Hid (CAt p q n) := hc
    clear hc
    by_cases h1 : n < p.length
    · obtain ⟨a, ha⟩ := at_lt p n h1
      have ca := HP.out n a ha
      have Ha : Hid (p[n]? = some a) := ha
      clear ha
      by_cases h2 : n < q.length
      · obtain ⟨b, hb⟩ := at_lt q n h2
        have cb := HQ.out n b hb
        have Hb : Hid (q[n]? = some b) := hb
        clear hb
        by_cases l1 : a < b
        · have HF : Hid (cmpL p q = -1) := (HC.out.lt Ha.out Hb.out l1).1
          go_wp2_with (go_at_call 17; refine (compare_lt a b _ l1).mono ?_; rintro e w' ⟨rfl, rfl⟩)
          go_ret
          exact ⟨ret_i64 HF.out.symm, rfl⟩
        · by_cases l2 : b < a
          · have HF : Hid (cmpL p q = 1) := (HC.out.gt Ha.out Hb.out l2).1
            go_wp2_with (go_at_call 17; refine (compare_gt a b _ l2).mono ?_; rintro e w' ⟨rfl, rfl⟩)
            go_ret
            exact ⟨ret_i64 HF.out.symm, rfl⟩
          · obtain rfl : a = b := by omega
            have HF : Hid (CAt p q (n + 1)) := HC.out.step Ha.out Hb.out
            clear l1 l2
            go_wp2_with (go_at_call 17; refine (compare_eq a _).mono ?_; rintro e w' ⟨rfl, rfl⟩)
            go_round
            case rel => exact ⟨n + 1, HF.out, by go_num⟩
            case measure => simp [intOf]; omega
      · have HF : Hid (cmpL p q = 1) := (HC.out.endq h1 (by omega)).1
        go_wp2
        go_ret
        exact ⟨ret_i64 HF.out.symm, rfl⟩
    · by_cases h2 : p.length < q.length
      · have HF : Hid (cmpL p q = -1) := (HC.out.endp (by omega) (by omega)).1
        go_wp2
        go_ret
        exact ⟨ret_i64 HF.out.symm, rfl⟩
      · have HF : Hid (cmpL p q = 0) := (HC.out.both (by omega) (by omega)).1
        go_wp2
        go_ret
        exact ⟨ret_i64 HF.out.symm, rfl⟩

set_option maxHeartbeats 1000000 in
/-- The law's own 'less'. -/
theorem sless (g h c1 c2 : Nat) (p q : List Int) (w : World) (hp : p.length ≤ 2000) (hq : q.length ≤ 2000) (Hp : Reads w g p) (Hq : Reads w h q) :
    Calls Yba.prog 10 #[.slice (some ⟨g, 0, none⟩) p.length c1, .slice (some ⟨h, 0, none⟩) q.length c2] w fun e w' => e = .returned (.bool (lessL p q)) ∧ ∃ m, w' = w.drewN m := by
  have HP : Hid (Reads w g p) := Hp
  have HQ : Hid (Reads w h q) := Hq
  clear Hp Hq
  go_enter Yba.func10, Yba.ntmps10
  by_cases hs : q.length < p.length
  all_goals
    go_wp2
    go_loopw [6] (fun i wr => ∃ n m : Nat, CAt p q n ∧ i = .int .i64 n ∧ wr = w.drewN m) (fun i _ => p.length - (intOf i).toNat)
    case atStart => exact ⟨0, 0, CAt.start p q, rfl, rfl⟩
    case round =>
      obtain ⟨n, m, hc, rfl, rfl⟩ := hrel
      have hn1 := hc.1
      have hn2 := hc.2.1
      have HC : Hid (CAt p q n) := hc
      clear hc
      by_cases h2 : n < q.length ∧ n < p.length
      · obtain ⟨h2, h3⟩ := h2
        obtain ⟨a, ha⟩ := at_lt p n h3
        have ca := HP.out n a ha
        have Ha : Hid (p[n]? = some a) := ha
        clear ha
        obtain ⟨b, hb⟩ := at_lt q n h2
        have cb := HQ.out n b hb
        have Hb : Hid (q[n]? = some b) := hb
        clear hb
        by_cases e : a = b
        · subst e
          have HF : Hid (CAt p q (n + 1)) := HC.out.step Ha.out Hb.out
          go_wp2_with fail
          go_quiet (fail)
          go_wp2_with fail
          go_roundw
          case rel => exact ⟨n + 1, _, HF.out, by go_num, rfl⟩
          case measure => simp [intOf]; omega
        · have HF : Hid (lessL p q = decide (a < b)) := HC.out.diff Ha.out Hb.out e
          have e' : (a == b) = false := by simpa using e
          go_wp2_with fail
          go_quiet (fail)
          go_wp2_with fail
          go_quiet (fail)
          go_wp2_with fail
          go_ret
          exact ⟨ret_bool HF.out.symm, drew3 _ _ _ _⟩
      · have HF : Hid (lessL p q = decide (p.length < q.length)) := HC.out.done h2
        go_wp2
        go_ret
        exact ⟨ret_bool HF.out.symm, _, rfl⟩

set_option maxHeartbeats 1000000 in
/-- slices.Equal at two instances of the same numbers. -/
theorem sequal (g h c1 c2 : Nat) (p : List Int) (w : World) (hp : p.length ≤ 2000) (Hp : Reads w g p) (Hq : Reads w h p) :
    Calls Yba.prog 11 #[.slice (some ⟨g, 0, none⟩) p.length c1, .slice (some ⟨h, 0, none⟩) p.length c2] w fun e w' => e = .returned (.bool true) ∧ ∃ m, w' = w.drewN m := by
  have HP : Hid (Reads w g p) := Hp
  have HQ : Hid (Reads w h p) := Hq
  clear Hp Hq
  go_enter Yba.func11, Yba.ntmps11
  go_wp2
  go_loopw [13] (fun i wr => ∃ n m : Nat, n ≤ p.length ∧ i = .int .i64 n ∧ wr = w.drewN m) (fun i _ => p.length - (intOf i).toNat)
  case atStart => exact ⟨0, 0, Nat.zero_le _, rfl, rfl⟩
  case round =>
    obtain ⟨n, m, hn, rfl, rfl⟩ := hrel
    by_cases h1 : n < p.length
    · obtain ⟨a, ha⟩ := at_lt p n h1
      have ca := HP.out n a ha
      have cb := HQ.out n a ha
      clear ha
      go_wp2_with fail
      go_quiet (fail)
      go_wp2_with fail
      go_roundw
      case rel => exact ⟨n + 1, _, by omega, by go_num, rfl⟩
      case measure => simp [intOf]; omega
    · go_wp2
      go_ret
      exact ⟨rfl, _, rfl⟩

set_option maxHeartbeats 1000000 in
/-- 'before' where the last operations differ. -/
theorem before_ne (g h c1 c2 n m : Nat) (x y : Int) (w : World) (hn : n ≤ 2000) (hm : m ≤ 2000) (cx : w.cell? ⟨g, n, none⟩ = some (.int .i64 x)) (cy : w.cell? ⟨h, m, none⟩ = some (.int .i64 y)) (hne : ¬ x = y) :
    Calls Yba.prog 9 #[.slice (some ⟨g, 0, none⟩) (n + 1) c1, .slice (some ⟨h, 0, none⟩) (m + 1) c2] w fun e w' => e = .returned (.bool (decide (x < y))) ∧ ∃ m, w' = w.drewN m := by
  have q : ∀ (w : World) (a : Option Addr) (n c n' c' : Nat), (binOp .eql 41 (.slice a n c) (.slice none n' c')).run Yba.prog w = .ok (.bool a.isNone) w := fun w a n c n' c' => Lib.run_eql_slice_nil w _ _ a n c n' c' Yba.underlying41
  have hne' : (x == y) = false := by simpa using hne
  go_enter Yba.func9, Yba.ntmps9
  go_wp2_with fail
  go_quiet (fail)
  go_wp2_with fail
  go_ret
  exact ⟨rfl, _, rfl⟩

set_option maxHeartbeats 1000000 in
/-- 'before' where the last operations are one. -/
theorem before_eq (g h c1 c2 n m : Nat) (x : Int) (p q : List Int) (w : World) (hn : n ≤ 1024) (hm : m ≤ 1024) (cx : w.cell? ⟨g, n, none⟩ = some (.int .i64 x)) (cy : w.cell? ⟨h, m, none⟩ = some (.int .i64 x))
    (lp : p.length = n + 1) (lq : q.length = m + 1) (Hp : Reads w g p) (Hq : Reads w h q) :
    Calls Yba.prog 9 #[.slice (some ⟨g, 0, none⟩) (n + 1) c1, .slice (some ⟨h, 0, none⟩) (m + 1) c2] w fun e w' => e = .returned (.bool (lessL p q)) ∧ ∃ m, w' = w.drewN m := by
  have qe : ∀ (w : World) (a : Option Addr) (n c n' c' : Nat), (binOp .eql 41 (.slice a n c) (.slice none n' c')).run Yba.prog w = .ok (.bool a.isNone) w := fun w a n c n' c' => Lib.run_eql_slice_nil w _ _ a n c n' c' Yba.underlying41
  have HC : Hid (∀ k : Nat, Calls Yba.prog 14 #[.slice (some ⟨g, 0, none⟩) (n + 1) c1, .slice (some ⟨h, 0, none⟩) (m + 1) c2] (w.drewN k) fun e w' => e = .returned (.int .i64 (cmpL p q)) ∧ w' = w.drewN k) := fun k => by
    have := scompare g h c1 c2 p q (w.drewN k) (by omega) Hp Hq
    rw [lp, lq] at this
    exact this
  clear Hp Hq lp lq
  have HL : Hid (decide (cmpL p q < 0) = lessL p q) := cmpL_less p q
  go_enter Yba.func9, Yba.ntmps9
  go_wp2_with fail
  go_quiet (fail)
  go_wp2_with (go_at_call 14; refine (HC.out _).mono ?_; rintro e w' ⟨rfl, rfl⟩)
  go_ret
  exact ⟨ret_bool HL.out, _, rfl⟩

set_option maxHeartbeats 1000000 in
set_option maxRecDepth 100000 in
/-- slices.Clone at the named slice type. -/
theorem clone8 (g c : Nat) (p : List Int) (w : World) (hn : p.length ≤ 2000) (hc : Reads w g p) :
    Calls Yba.prog 8 #[.slice (some ⟨g, 0, none⟩) p.length c] w fun e w' => ∃ v', e = .returned v' ∧ w'.ownsRow w.heap.size 3 1 v' p.length (p.map (Value.int .i64)) ∧ Below w.heap.size w w' := by
  obtain ⟨i0, hi, hz0, hz1, hz2⟩ := info_parts Yba.info3
  have q : ∀ (w : World) (a : Option Addr) (n c n' c' : Nat), (binOp .eql 41 (.slice a n c) (.slice none n' c')).run Yba.prog w = .ok (.bool a.isNone) w := fun w a n c n' c' => Lib.run_eql_slice_nil w _ _ a n c n' c' Yba.underlying41
  have A : Hid (Reads w g p) := hc
  clear hc
  go_enter Yba.func8, Yba.ntmps8
  go_wp2_with (at_builtin; refine wpList_append_own _ rfl _ _ 41 rfl w.heap.size 3 i0 (.int .i64 0) 1 8 Yba.underlying41 hi hz0 hz1 hz2 rfl (by decide) _ _ _ rfl (World.ownsRow_made w #[] 0 (Nat.le_refl _) (Nat.zero_le _) rfl) ⟨g, 0, none⟩ p.length c (p.map (Value.int .i64)) rfl ?qc1 ?qc2 ?qc3 ?qc4 ?qc5 ?qc6 ?_)
  case qc1 => simp
  case qc2 =>
    intro j u hj
    rw [Addr.add_lit]
    refine Lib.cell?_alloc_some _ ?_
    rw [List.getElem?_map] at hj
    obtain ⟨v, hv, rfl⟩ := Option.map_eq_some_iff.1 hj
    have := A.out j v hv
    simpa using this
  case qc3 => intro u hu; obtain ⟨x, _, rfl⟩ := List.mem_map.1 hu; rfl
  case qc4 => unfold maxLen; omega
  case qc5 => omega
  case qc6 => simp
  intro v' w1 hown hgrow hnil
  go_wp2
  go_ret
  exact ⟨v', rfl, by simpa using hown, ((Below.refl _ w).alloc (Nat.le_refl _) _).grown hgrow (by simp) (by intro k hk; simp [Value.ownBlock] at hk; omega)⟩
end Go.Proofs.Ybulkbtyo
