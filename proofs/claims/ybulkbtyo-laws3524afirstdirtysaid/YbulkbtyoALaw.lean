/-
  LawS3524AFirstDirty: THE WALK.
-/
import Derived.Test.YbulkbtyoARows
namespace Go.Proofs.Ybulkbtyo
open Go.RowKit

theorem src_bd (sr : Int) (n : Nat) : 0 ≤ sr % ((n : Int) + 1) ∧ sr % ((n : Int) + 1) ≤ n := by
  have h1 := Int.emod_nonneg sr (show (n : Int) + 1 ≠ 0 by omega)
  have h2 := Int.emod_lt_of_pos sr (show 0 < (n : Int) + 1 by omega)
  omega

set_option maxRecDepth 100000 in
set_option maxHeartbeats 1000000 in
theorem law3 (a0 : Option Addr) (n cap : Nat) (c0 c1 c2 c3 : Int) (kd tx sr : Nat → Int) (w : World) (hn : n ≤ 1024) (hst : Steps w a0 n kd tx sr) :
    Calls Yba.prog 3 #[.slice a0 n cap, .agg #[.int .i64 c0, .int .i64 c1, .int .i64 c2, .int .i64 c3]] w fun e w' => e = .returned (.bool true) ∧ Below w.heap.size w w' := by
  have m24 := made24 n hn
  have m25 := made25 n hn
  obtain ⟨K, hK⟩ : ∃ K : Nat → Int, Hid (∀ i, K i = kd i % 5) := ⟨_, fun _ => rfl⟩
  obtain ⟨t, ht⟩ : ∃ t : Nat → Int, Hid (∀ i, t i = tx i % 4) := ⟨_, fun _ => rfl⟩
  obtain ⟨r, hr⟩ : ∃ r : Nat → Int, Hid (∀ i, r i = sr i % ((n : Int) + 1) - 1) := ⟨_, fun _ => rfl⟩
  have ST : Hid (Steps w a0 n kd tx sr) := hst
  clear hst
  go_enter Yba.func3, Yba.ntmps3
  go_wp2
  clear m24 m25
  have HF0 := Fill.start (w.alloc (.cells #[.int .i64 c0, .int .i64 c1, .int .i64 c2, .int .i64 c3] 23)) n K t r
  have hsz : (w.alloc (.cells #[.int .i64 c0, .int .i64 c1, .int .i64 c2, .int .i64 c3] 23)).heap.size = w.heap.size + 1 := by simp
  rw [hsz] at HF0
  clear hsz
  generalize w.heap.size + 1 + 1 + 1 = R at HF0 ⊢
  generalize w.heap.size + 1 + 1 = T at HF0 ⊢
  generalize w.heap.size + 1 = O at HF0 ⊢
  go_loopw [33] (fun i wr => ∃ (k : Nat), k ≤ n ∧ i = .int .i64 k ∧ Fill (w.alloc (.cells #[.int .i64 c0, .int .i64 c1, .int .i64 c2, .int .i64 c3] 23)) wr O T R n k K t r) (fun i _ => n - (intOf i).toNat)
  case atStart => exact ⟨0, Nat.zero_le _, rfl, HF0⟩
  case round =>
    clear HF0
    obtain ⟨k, hk, rfl, hF⟩ := hrel
    have HF : Hid (Fill (w.alloc (.cells #[.int .i64 c0, .int .i64 c1, .int .i64 c2, .int .i64 c3] 23)) wr O T R n k K t r) := hF
    by_cases hlt : k < n
    · have bw : Below w.heap.size w wr := ((Below.refl _ w).alloc (Nat.le_refl _) _).trans (hF.below.mono (by simp))
      obtain ⟨b, off, rfl, h0, h1, h2, h3, h4, h5, h6, h7, h8⟩ := ST.out.below bw k hlt
      have hb := World.block_lt_of_cell? wr _ h0
      have lO := hF.lO
      have lT := hF.lT
      have lR := hF.lR
      have ne1 := hF.nOT
      have ne2 := hF.nOR
      have ne3 := hF.nTR
      obtain ⟨o0, g0⟩ := hF.cO (k * 4) (by omega)
      obtain ⟨o1, g1⟩ := hF.cO (k * 4 + 1) (by omega)
      obtain ⟨o2, g2⟩ := hF.cO (k * 4 + 2) (by omega)
      obtain ⟨o3, g3⟩ := hF.cO (k * 4 + 3) (by omega)
      obtain ⟨o4, g4⟩ := hF.cT k hlt
      obtain ⟨o5, g5⟩ := hF.cR k hlt
      have f0 := hF.fO (k * 4)
      have f1 := hF.fO (k * 4 + 1)
      have f2 := hF.fO (k * 4 + 2)
      have f3 := hF.fO (k * 4 + 3)
      have f4 := hF.fT k
      have f5 := hF.fR k
      obtain ⟨sb0, sb1⟩ := src_bd (sr k) n
      obtain ⟨x, hx⟩ : ∃ x, kd k = x := ⟨_, rfl⟩
      obtain ⟨y, hy⟩ : ∃ x, tx k = x := ⟨_, rfl⟩
      obtain ⟨z, hz⟩ : ∃ x, sr k = x := ⟨_, rfl⟩
      rw [hx] at h0 h3 h4
      rw [hy] at h1 h5 h6
      rw [hz] at h2 h7 h8 sb0 sb1
      have HX : Hid (kd k = x) := hx
      have HY : Hid (tx k = y) := hy
      have HZ : Hid (sr k = z) := hz
      clear hx hy hz hF bw
      go_wp2
      go_roundw
      case rel => exact ⟨k + 1, by omega, by go_num, HF.out.step hlt _ _ _ _ (by rw [hK.out, HX.out]) (by rw [ht.out, HY.out]) (by rw [hr.out, HZ.out])⟩
      case measure => simp [intOf]; omega
    · obtain rfl : n = k := by omega
      have bw : Below w.heap.size w wr := ((Below.refl _ w).alloc (Nat.le_refl _) _).trans (hF.below.mono (by simp))
      have b0 : wr.cell? ⟨w.heap.size, 0, none⟩ = some (.int .i64 c0) := keep hF.below rfl (by simp)
      have b1 : wr.cell? ⟨w.heap.size, 1, none⟩ = some (.int .i64 c1) := keep hF.below rfl (by simp)
      have b2 : wr.cell? ⟨w.heap.size, 2, none⟩ = some (.int .i64 c2) := keep hF.below rfl (by simp)
      have b3 : wr.cell? ⟨w.heap.size, 3, none⟩ = some (.int .i64 c3) := keep hF.below rfl (by simp)
      have BW : Hid (Below w.heap.size w wr) := bw
      have hTb : ∀ i, i < n → 0 ≤ t i ∧ t i ≤ 3 := fun i hi => by
        obtain ⟨_, _, _, _, _, _, _, _, h5, h6, _⟩ := ST.out i hi
        rw [ht.out]; omega
      have hRb : ∀ i, i < n → -1 ≤ r i ∧ r i < n := fun i hi => by
        have := src_bd (sr i) n
        rw [hr.out]; omega
      have HTb : Hid (∀ i, i < n → 0 ≤ t i ∧ t i ≤ 3) := hTb
      have HRb : Hid (∀ i, i < n → -1 ≤ r i ∧ r i < n) := hRb
      clear hF bw hlt hk hTb hRb
      go_wp2_with fail
      refine (dirty (wr.heap.size + 1) O T R wr.heap.size n K t r (four c0 c1 c2 c3) _ hn (scan_of HF.out c0 c1 c2 c3 _ _ _ _ _ _ _ _ _ _) HTb.out HRb.out).mono ?_
      rintro e wD ⟨v, rfl, hbD, told⟩
      have SD : Hid (Scan wD (wr.heap.size + 1) O T R wr.heap.size n K t r (four c0 c1 c2 c3)) := (scan_of HF.out c0 c1 c2 c3 _ _ _ _ _ _ _ _ _ _).below hbD
      have BD : Hid (Below w.heap.size w wD) := (((BW.out.alloc BW.out.size _).alloc (by have := BW.out.size; simp; omega) _).trans (hbD.mono (by have := BW.out.size; simp; omega)))
      have TD : Hid (Told _ wD n K t r (four c0 c1 c2 c3) v) := told
      clear told hbD b0 b1 b2 b3 HF BW
      generalize four c0 c1 c2 c3 = c at SD TD
      generalize wr.heap.size + 1 = S at SD ⊢
      generalize wr.heap.size = C at SD ⊢
      go_wp2_with fail
      go_loopw [15, 16] (fun f i wx => ∃ k m : Nat, k ≤ n ∧ f = .int .i64 (-1) ∧ i = .int .i64 k ∧ wx = wD.drewN m ∧ ∀ i, i < k → dirtyB K t r c i = false) (fun _ i _ => n - (intOf i).toNat)
      case atStart => exact ⟨0, 0, Nat.zero_le _, rfl, rfl, rfl, fun i hi => by omega⟩
      case round =>
        obtain ⟨k, m, hk, rfl, rfl, rfl, hd⟩ := hrel
        have HDt : Hid (∀ i, i < k → dirtyB K t r c i = false) := hd
        clear hd
        by_cases hlt : k < n
        · have q0 := SD.out.o0 k hlt
          have q4 := SD.out.tt k hlt
          have q5 := SD.out.rr k hlt
          obtain ⟨r0, r1⟩ := HRb.out k hlt
          obtain ⟨ck, hck⟩ : ∃ x, K k = x := ⟨_, rfl⟩
          obtain ⟨tk, htk⟩ : ∃ x, t k = x := ⟨_, rfl⟩
          obtain ⟨rk, hrk⟩ : ∃ x, r k = x := ⟨_, rfl⟩
          rw [hck] at q0
          rw [htk] at q4
          rw [hrk] at q5 r0 r1
          have CK : Hid (K k = ck) := hck
          have TK : Hid (t k = tk) := htk
          have RK : Hid (r k = rk) := hrk
          clear hck htk hrk
          by_cases a1 : ck = 1
          · subst a1
            by_cases a2 : rk < 0
            · have HN : Hid (dirtyB K t r c k = false) := dirty_no2 RK.out a2
              go_wp2
              go_roundw
              case rel => exact ⟨k + 1, _, by omega, rfl, by go_num, rfl, below_next HDt.out HN.out⟩
              case measure => simp [intOf]; omega
            · obtain ⟨j, rfl⟩ := Int.eq_ofNat_of_zero_le (show 0 ≤ rk by omega)
              have hj : j < n := by omega
              obtain ⟨t0, t1⟩ := HTb.out j hj
              have q6 := SD.out.tt j hj
              obtain ⟨tj, htj⟩ : ∃ x, t j = x := ⟨_, rfl⟩
              rw [htj] at q6 t0 t1
              have TJ : Hid (t j = tj) := htj
              clear htj
              by_cases a3 : tj = tk
              · subst a3
                have HN : Hid (dirtyB K t r c k = false) := dirty_no3 RK.out TJ.out TK.out
                go_wp2_with fail
                go_quiet (fail)
                go_wp2_with fail
                go_roundw
                case rel => exact ⟨k + 1, _, by omega, rfl, by go_num, rfl, below_next HDt.out HN.out⟩
                case measure => simp [intOf]; omega
              · have a3' : (tj == tk) = false := by simpa using a3
                obtain ⟨jt, rfl⟩ := Int.eq_ofNat_of_zero_le t0
                have hjt : jt < 4 := by omega
                have a3'' : ((jt : Int) != tk) = true := by simpa using a3
                obtain ⟨cz, hcz⟩ : ∃ x, c jt = x := ⟨_, rfl⟩
                have q7 := SD.out.cc jt hjt
                rw [hcz] at q7
                have CZ : Hid (c (jt : Int).toNat = cz) := hcz
                clear hcz
                by_cases a4 : cz < k
                · have HN : Hid (dirtyB K t r c k = false) := dirty_no4 RK.out TJ.out CZ.out a4
                  have a4' : decide (cz < (k : Int)) = true := decide_eq_true a4
                  go_wp2_with fail
                  go_quiet (fail)
                  go_wp2_with fail
                  go_roundw
                  case rel => exact ⟨k + 1, _, by omega, rfl, by go_num, rfl, below_next HDt.out HN.out⟩
                  case measure => simp [intOf]; omega
                · have HN : Hid (dirtyB K t r c k = true) := dirty_yes CK.out RK.out TJ.out TK.out a3 CZ.out a4
                  have a4' : decide (cz < (k : Int)) = false := decide_eq_false a4
                  go_wp2_with fail
                  go_quiet (fail)
                  go_wp2_with fail
                  obtain ⟨g, rfl, e0, e1⟩ := TD.out.first hlt HN.out HDt.out
                  go_loopw [18] (fun i wx => ∃ k3 m3 : Nat, k3 ≤ n ∧ i = .int .i64 k3 ∧ wx = wD.drewN m3) (fun i _ => n - (intOf i).toNat)
                  case atStart => exact ⟨0, _, Nat.zero_le _, rfl, by first | rfl | exact World.drewN_drewN _ _ _⟩
                  case round =>
                    obtain ⟨k3, m3, hk3, rfl, rfl⟩ := hrel
                    by_cases hl3 : k3 < n
                    · obtain ⟨b, off, rfl, h0, h1, h2, h3, h4, h5, h6, h7, h8⟩ := ST.out.below BD.out k3 hl3
                      have p0 := SD.out.o0 k3 hl3
                      have p1 := SD.out.tt k3 hl3
                      have p2 := SD.out.rr k3 hl3
                      rw [hK.out] at p0
                      rw [ht.out] at p1
                      rw [hr.out] at p2
                      obtain ⟨sb0, sb1⟩ := src_bd (sr k3) n
                      generalize kd k3 = x at h0 h3 h4 p0
                      generalize tx k3 = y at h1 h5 h6 p1
                      generalize sr k3 = z at h2 h7 h8 p2 sb0 sb1
                      go_wp2_with fail
                      go_quiet (fail)
                      go_wp2_with fail
                      go_roundw
                      case rel => exact ⟨k3 + 1, _, by omega, by go_num, by first | rfl | exact World.drewN_drewN _ _ _⟩
                      case measure => simp [intOf]; omega
                    · by_cases l : k < j
                      · have g0 : wD.cell? ⟨g, 0, none⟩ = some (.int .i64 k) := by rw [e0, RK.out, show min (j : Int) (k : Int) = k by omega]
                        have g1 : wD.cell? ⟨g, 1, none⟩ = some (.int .i64 j) := by rw [e1, RK.out, show max (j : Int) (k : Int) = j by omega]
                        clear e0 e1
                        go_wp2_with fail
                        go_ret
                        exact ⟨rfl, below_drewN BD.out _⟩
                      · have g0 : wD.cell? ⟨g, 0, none⟩ = some (.int .i64 j) := by rw [e0, RK.out, show min (j : Int) (k : Int) = j by omega]
                        have g1 : wD.cell? ⟨g, 1, none⟩ = some (.int .i64 k) := by rw [e1, RK.out, show max (j : Int) (k : Int) = k by omega]
                        clear e0 e1
                        go_wp2_with fail
                        go_ret
                        exact ⟨rfl, below_drewN BD.out _⟩
          · have a1' : (ck == 1) = false := by simpa using a1
            have HN : Hid (dirtyB K t r c k = false) := dirty_no1 CK.out a1
            go_wp2
            go_roundw
            case rel => exact ⟨k + 1, _, by omega, rfl, by go_num, rfl, below_next HDt.out HN.out⟩
            case measure => simp [intOf]; omega
        · obtain rfl := TD.out.clean (fun i hi => HDt.out i (by omega))
          have qn : ∀ (w : World) (a : Option Addr) (n c n' c' : Nat), (binOp .eql 41 (.slice a n c) (.slice none n' c')).run Yba.prog w = .ok (.bool a.isNone) w := fun w a n c n' c' => Lib.run_eql_slice_nil w _ _ a n c n' c' Yba.underlying41
          go_wp2
          go_loopw [18] (fun i wx => ∃ k3 m3 : Nat, k3 ≤ n ∧ i = .int .i64 k3 ∧ wx = wD.drewN m3) (fun i _ => n - (intOf i).toNat)
          case atStart => exact ⟨0, _, Nat.zero_le _, rfl, by first | rfl | exact World.drewN_drewN _ _ _⟩
          case round =>
            obtain ⟨k3, m3, hk3, rfl, rfl⟩ := hrel
            by_cases hl3 : k3 < n
            · obtain ⟨b, off, rfl, h0, h1, h2, h3, h4, h5, h6, h7, h8⟩ := ST.out.below BD.out k3 hl3
              have p0 := SD.out.o0 k3 hl3
              have p1 := SD.out.tt k3 hl3
              have p2 := SD.out.rr k3 hl3
              rw [hK.out] at p0
              rw [ht.out] at p1
              rw [hr.out] at p2
              obtain ⟨sb0, sb1⟩ := src_bd (sr k3) n
              generalize kd k3 = x at h0 h3 h4 p0
              generalize tx k3 = y at h1 h5 h6 p1
              generalize sr k3 = z at h2 h7 h8 p2 sb0 sb1
              go_wp2_with fail
              go_quiet (fail)
              go_wp2_with fail
              go_roundw
              case rel => exact ⟨k3 + 1, _, by omega, by go_num, by first | rfl | exact World.drewN_drewN _ _ _⟩
              case measure => simp [intOf]; omega
            · go_wp2_with fail
              go_ret
              exact ⟨rfl, below_drewN BD.out _⟩

set_option maxRecDepth 100000 in
set_option maxHeartbeats 400000 in
theorem law3_big (a0 : Option Addr) (n cap : Nat) (c0 c1 c2 c3 : Int) (w : World) (hn : 1024 < n) :
    Calls Yba.prog 3 #[.slice a0 n cap, .agg #[.int .i64 c0, .int .i64 c1, .int .i64 c2, .int .i64 c3]] w fun e w' => e = .returned (.bool true) ∧ Below w.heap.size w w' := by
  go_enter Yba.func3, Yba.ntmps3
  go_wp2
  go_ret
  exact ⟨rfl, (Below.refl _ _).alloc (Nat.le_refl _) _⟩
theorem law3_any (a0 : Option Addr) (n cap : Nat) (c0 c1 c2 c3 : Int) (kd tx sr : Nat → Int) (w : World) (hst : Steps w a0 n kd tx sr) :
    Calls Yba.prog 3 #[.slice a0 n cap, .agg #[.int .i64 c0, .int .i64 c1, .int .i64 c2, .int .i64 c3]] w fun e w' => e = .returned (.bool true) ∧ Below w.heap.size w w' := by
  by_cases h : 1024 < n
  · exact law3_big a0 n cap c0 c1 c2 c3 w h
  · exact law3 a0 n cap c0 c1 c2 c3 kd tx sr w (by omega) hst
end Go.Proofs.Ybulkbtyo
