/-
  THE WALKS of the door seat's functions: packedRun, the model's run, the model's digit: what each call answers, by plain functions.
-/
import Derived.Test.YbulkbtyoDoorBase
import Derived.WalkSpells
import Derived.WalkLawsBesides
namespace Go.Proofs.YbulkbtyoDoor
open Go.RowKit

/-- One byte more in the key. -/
def stp (q d : Int) : Int := bits .or .u64 (IntKind.u64.wrap (q * 64)) d
/-- The run: the key and the count. -/
def pr : List UInt8 → Int → Int × Nat
  | [], q => (q, 0)
  | c :: t, q => if dg c = 0 then (q, 0) else ((pr t (stp q (dg c))).1, (pr t (stp q (dg c))).2 + 1)
def outK (n : Nat) (q : Int) : Int := if 10 < n then 0 else q
theorem outK_big {n : Nat} {q : Int} (h : 10 < n) : outK n q = 0 := by simp [outK, h]
theorem outK_small {n : Nat} {q : Int} (h : n ≤ 10) : outK n q = q := by simp [outK, Nat.not_lt.2 h]

theorem drop_at (s : ByteArray) (n : Nat) (h : n < s.size) : s.data.toList.drop n = s[n] :: s.data.toList.drop (n + 1) := by
  rw [List.drop_eq_getElem_cons (by simpa using h)]; rfl
theorem pr_step (s : ByteArray) (n : Nat) (q : Int) (h : n < s.size) (hz : dg s[n] ≠ 0) :
    pr (s.data.toList.drop n) q = ((pr (s.data.toList.drop (n + 1)) (stp q (dg s[n]))).1, (pr (s.data.toList.drop (n + 1)) (stp q (dg s[n]))).2 + 1) := by
  rw [drop_at s n h]; simp [pr, hz]
theorem pr_stop (s : ByteArray) (n : Nat) (q : Int) (h : n < s.size) (hz : dg s[n] = 0) : pr (s.data.toList.drop n) q = (q, 0) := by
  rw [drop_at s n h]; simp [pr, hz]
theorem pr_end (s : ByteArray) (n : Nat) (q : Int) (h : ¬ n < s.size) : pr (s.data.toList.drop n) q = (q, 0) := by
  rw [List.drop_eq_nil_of_le (by simp; omega)]; rfl
theorem pr_le : ∀ (l : List UInt8) (q : Int), (pr l q).2 ≤ l.length
  | [], _ => Nat.le_refl _
  | c :: t, q => by
    simp only [pr]
    split
    · simp
    · have := pr_le t (stp q (dg c)); simpa using this
/-- Where the run has ended short of the end there stands a byte without a digit. -/
theorem pr_at : ∀ (l : List UInt8) (q : Int) (h : (pr l q).2 < l.length), dg (l[(pr l q).2]'h) = 0
  | [], _, h => by simp [pr] at h
  | c :: t, q, h => by
    by_cases hz : dg c = 0
    · have e : pr (c :: t) q = (q, 0) := by simp [pr, hz]
      simp [e, hz]
    · have e : pr (c :: t) q = ((pr t (stp q (dg c))).1, (pr t (stp q (dg c))).2 + 1) := by simp [pr, hz]
      have h2 : (pr t (stp q (dg c))).2 < t.length := by rw [e] at h; simpa using h
      have := pr_at t (stp q (dg c)) h2
      simpa [e] using this

theorem tup2 {a a' b b' : Int} (h1 : a = a') (h2 : b = b') : Ending.returned (.tuple #[.int .u64 a, .int .i64 b]) = .returned (.tuple #[.int .u64 a', .int .i64 b']) := by rw [h1, h2]
theorem ret_u64 {a b : Int} (h : a = b) : Ending.returned (.int .u64 a) = .returned (.int .u64 b) := by rw [h]

/-- How far a run that began at j has come when it stands at n with the key q. -/
def Come (s : ByteArray) (j n : Nat) (q : Int) : Prop := pr (s.data.toList.drop j) 0 = ((pr (s.data.toList.drop n) q).1, (pr (s.data.toList.drop n) q).2 + (n - j))
theorem Come.step {s : ByteArray} {j n : Nat} {q : Int} (h : Come s j n q) (hj : j ≤ n) (hn : n < s.size) (hz : dg s[n] ≠ 0) : Come s j (n + 1) (stp q (dg s[n])) := by
  unfold Come at *
  rw [h, pr_step s n q hn hz]
  simp only [Prod.mk.injEq, true_and]
  omega
theorem Come.fin {s : ByteArray} {j n : Nat} {q : Int} (h : Come s j n q) (_hj : j ≤ n) (e : pr (s.data.toList.drop n) q = (q, 0)) : (pr (s.data.toList.drop j) 0).1 = q ∧ (pr (s.data.toList.drop j) 0).2 = n - j := by
  unfold Come at h
  rw [h, e]; simp

set_option maxHeartbeats 400000 in
theorem packed_any (s : ByteArray) (j : Nat) (w : World) (hs : j ≤ s.size) (hm : s.size ≤ maxLen) (hD : ∀ c : UInt8, w.cell? ⟨0, c.toNat, none⟩ = some (.int .u8 (dg c))) :
    Calls Ybad.prog 6 #[.string s, .int .i64 j] w fun e w' => e = .returned (.tuple #[.int .u64 (outK (pr (s.data.toList.drop j) 0).2 (pr (s.data.toList.drop j) 0).1), .int .i64 ((j + (pr (s.data.toList.drop j) 0).2 : Nat) : Int)]) ∧ w' = w := by
  unfold maxLen at hm
  have HD : Hid (∀ c : UInt8, w.cell? ⟨0, c.toNat, none⟩ = some (.int .u8 (dg c))) := hD
  clear hD
  go_enter Ybad.func6, Ybad.ntmps6
  go_wp2
  go_loop [1, 4] (fun i k => ∃ (n : Nat) (q : Int), j ≤ n ∧ n ≤ s.size ∧ Come s j n q ∧ i = .int .i64 n ∧ k = .int .u64 q) (fun i _ => s.size - (intOf i).toNat)
  case atStart => exact ⟨_, _, Nat.le_refl _, hs, by simp [Come], rfl, rfl⟩
  case round =>
    obtain ⟨n, q, hn1, hn2, hcome, rfl, rfl⟩ := hrel
    by_cases hlt : n < s.size
    · have hc := HD.out s[n]
      have hb := dgN_bd s[n].toNat
      obtain ⟨d, hd⟩ : ∃ d, dg s[n] = d := ⟨_, rfl⟩
      rw [hd] at hc
      obtain ⟨hc0, hc1⟩ : 0 ≤ d ∧ d ≤ 62 := hd ▸ hb
      clear hb
      have hcl : s[n].toNat < 256 := s[n].toNat_lt
      have Hd : Hid (dg s[n] = d) := hd
      clear hd
      by_cases hz : d = 0
      · subst hz
        have HF : Hid ((pr (s.data.toList.drop j) 0).1 = q ∧ (pr (s.data.toList.drop j) 0).2 = n - j) := hcome.fin hn1 (pr_stop s n q hlt Hd.out)
        clear hcome
        go_wp2
        · go_ret2
          exact ⟨tup2 (by rw [HF.out.2, outK_big (by omega)]) (by rw [HF.out.2]; omega), rfl⟩
        · go_ret2
          exact ⟨tup2 (by rw [HF.out.2, outK_small (by omega), HF.out.1]) (by rw [HF.out.2]; omega), rfl⟩
      · have HC : Hid (Come s j (n + 1) (stp q d)) := by
          have := hcome.step hn1 hlt (by rw [Hd.out]; exact hz)
          rw [Hd.out] at this
          exact this
        clear hcome
        go_wp2
        go_round
        case rel => exact ⟨n + 1, _, by omega, by omega, HC.out, by go_num, rfl⟩
        case measure => simp [intOf]; omega
    · have HF : Hid ((pr (s.data.toList.drop j) 0).1 = q ∧ (pr (s.data.toList.drop j) 0).2 = n - j) := hcome.fin hn1 (pr_end s n q hlt)
      clear hcome
      go_wp2
      · go_ret2
        exact ⟨tup2 (by rw [HF.out.2, outK_big (by omega)]) (by rw [HF.out.2]; omega), rfl⟩
      · go_ret2
        exact ⟨tup2 (by rw [HF.out.2, outK_small (by omega), HF.out.1]) (by rw [HF.out.2]; omega), rfl⟩

theorem dgN_dig {c : Int} (h1 : 48 ≤ c) (h2 : c ≤ 57) : c - 48 + 1 = dgN c := by unfold dgN; rw [if_pos ⟨h1, h2⟩]; omega
theorem dgN_up {c : Int} (h1 : 65 ≤ c) (h2 : c ≤ 90) : c - 65 + 11 = dgN c := by unfold dgN; rw [if_neg (by omega), if_pos ⟨h1, h2⟩]; omega
theorem dgN_low {c : Int} (h1 : 97 ≤ c) (h2 : c ≤ 122) : c - 97 + 37 = dgN c := by unfold dgN; rw [if_neg (by omega), if_neg (by omega), if_pos ⟨h1, h2⟩]; omega
theorem dgN_no {c : Int} (h1 : ¬ (48 ≤ c ∧ c ≤ 57)) (h2 : ¬ (65 ≤ c ∧ c ≤ 90)) (h3 : ¬ (97 ≤ c ∧ c ≤ 122)) : 0 = dgN c := by unfold dgN; rw [if_neg h1, if_neg h2, if_neg h3]

set_option maxHeartbeats 400000 in
theorem digit_any (c : Int) (w : World) (h0 : 0 ≤ c) (h1 : c ≤ 255) : Calls Ybad.prog 8 #[.int .u8 c] w fun e w' => e = .returned (.int .u64 (dgN c)) ∧ w' = w := by
  go_enter Ybad.func8, Ybad.ntmps8
  go_wp2
  all_goals
    go_ret
    exact ⟨ret_u64 (by first | exact dgN_dig (by omega) (by omega) | exact dgN_up (by omega) (by omega) | exact dgN_low (by omega) (by omega) | exact dgN_no (by omega) (by omega) (by omega)), rfl⟩

set_option maxHeartbeats 400000 in
theorem model_any (s : ByteArray) (j : Nat) (w : World) (hs : j ≤ s.size) (hm : s.size ≤ maxLen) :
    Calls Ybad.prog 7 #[.string s, .int .i64 j] w fun e w' => e = .returned (.tuple #[.int .u64 (outK (pr (s.data.toList.drop j) 0).2 (pr (s.data.toList.drop j) 0).1), .int .i64 ((j + (pr (s.data.toList.drop j) 0).2 : Nat) : Int)]) ∧ w' = w := by
  unfold maxLen at hm
  go_enter Ybad.func7, Ybad.ntmps7
  go_wp2
  go_loop [6, 7, 8] (fun k m i => ∃ (n : Nat) (q : Int), j ≤ n ∧ n ≤ s.size ∧ Come s j n q ∧ i = .int .i64 n ∧ k = .int .u64 q ∧ m = .int .i64 ((n - j : Nat) : Int)) (fun _ _ i => s.size - (intOf i).toNat)
  case atStart => exact ⟨_, _, Nat.le_refl _, hs, by simp [Come], rfl, rfl, by simp⟩
  case round =>
    obtain ⟨n, q, hn1, hn2, hcome, rfl, rfl, rfl⟩ := hrel
    obtain ⟨m, hmn⟩ : ∃ m, n - j = m := ⟨_, rfl⟩
    rw [hmn]
    have hm1 : m ≤ n := by omega
    have HM : Hid (n - j = m) := hmn
    clear hmn
    by_cases hlt : n < s.size
    · have hb := dgN_bd s[n].toNat
      obtain ⟨d, hd⟩ : ∃ d, dg s[n] = d := ⟨_, rfl⟩
      obtain ⟨hc0, hc1⟩ : 0 ≤ d ∧ d ≤ 62 := hd ▸ hb
      clear hb
      have hcl : s[n].toNat < 256 := s[n].toNat_lt
      have Hd : Hid (dg s[n] = d) := hd
      have Hc : ∀ w, Calls Ybad.prog 8 #[.int .u8 (s[n].toNat : Int)] w fun e w' => e = .returned (.int .u64 d) ∧ w' = w := fun w => by
        have := digit_any s[n].toNat w (by omega) (by omega)
        rw [show dgN s[n].toNat = d from hd] at this
        exact this
      have HC2 : Hid (∀ w, Calls Ybad.prog 8 #[.int .u8 (s[n].toNat : Int)] w fun e w' => e = .returned (.int .u64 d) ∧ w' = w) := Hc
      clear hd Hc
      by_cases hz : d = 0
      · subst hz
        have HF : Hid ((pr (s.data.toList.drop j) 0).1 = q ∧ (pr (s.data.toList.drop j) 0).2 = n - j) := hcome.fin hn1 (pr_stop s n q hlt Hd.out)
        clear hcome
        go_wp2_with (go_at_call 8; refine (HC2.out _).mono ?_; rintro e w' ⟨rfl, rfl⟩)
        · go_ret2
          exact ⟨tup2 (by have := HM.out; rw [HF.out.2, outK_big (by omega)]) (by rw [HF.out.2]; omega), rfl⟩
        · go_ret2
          exact ⟨tup2 (by have := HM.out; rw [HF.out.2, outK_small (by omega), HF.out.1]) (by rw [HF.out.2]; omega), rfl⟩
      · have HC : Hid (Come s j (n + 1) (stp q d)) := by
          have := hcome.step hn1 hlt (by rw [Hd.out]; exact hz)
          rw [Hd.out] at this
          exact this
        clear hcome
        go_wp2_with (go_at_call 8; refine (HC2.out _).mono ?_; rintro e w' ⟨rfl, rfl⟩)
        go_round
        case rel => exact ⟨n + 1, _, by omega, by omega, HC.out, by go_num, rfl, by rw [show n + 1 - j = m + 1 by have := HM.out; omega]; go_num⟩
        case measure => simp [intOf]; omega
    · have HF : Hid ((pr (s.data.toList.drop j) 0).1 = q ∧ (pr (s.data.toList.drop j) 0).2 = n - j) := hcome.fin hn1 (pr_end s n q hlt)
      clear hcome
      go_wp2
      · go_ret2
        exact ⟨tup2 (by have := HM.out; rw [HF.out.2, outK_big (by omega)]) (by rw [HF.out.2]; omega), rfl⟩
      · go_ret2
        exact ⟨tup2 (by have := HM.out; rw [HF.out.2, outK_small (by omega), HF.out.1]) (by rw [HF.out.2]; omega), rfl⟩
end Go.Proofs.YbulkbtyoDoor
