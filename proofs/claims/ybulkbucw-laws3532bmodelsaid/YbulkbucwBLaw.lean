/-
  LawS3532BModel: THE WALK.
-/
import Derived.Test.YbulkbucwBTable
namespace Go.Proofs.Ybulkbucw
open Go.RowKit

set_option maxRecDepth 100000 in
set_option maxHeartbeats 2000000 in
theorem lawB (a0 : Option Addr) (cap0 : Nat) (xs : List (Int × Int × Int)) (a1 : Option Addr) (cap1 : Nat) (zs : List (Int × Int × Int)) (w : World) (hx : xs.length ≤ 300) (hz : zs.length ≤ 300) (hix : Inp w a0 xs) (hiz : Inp w a1 zs) :
    Calls Yba.prog 3 #[.slice a0 xs.length cap0, .slice a1 zs.length cap1] w fun e w' => e = .returned (.bool true) ∧ Below w.heap.size w w' := by
  have IX : Hid (Inp w a0 xs) := hix
  have IZ : Hid (Inp w a1 zs) := hiz
  clear hix hiz
  go_enter Yba.func3, Yba.ntmps3
  go_wp2_with (go_at_call 7; refine (build_call a0 cap0 xs a1 cap1 zs w hx hz IX.out IZ.out).mono ?_; rintro e w1 ⟨a16, c16, a32, c32, rfl, hc0, hc1, ht1, ht2, hB1⟩)
  have T1 : Hid (Tab .u16 w1 a16 (xs.map (tri · 0))) := ht1
  have T2 : Hid (Tab .u32 w1 a32 (zs.map (tri · 65536))) := ht2
  have B1 : Hid (Below w.heap.size w w1) := hB1
  have F1 : Hid (∀ t ∈ xs.map (tri · 0), Fit 0 t) := fun t ht => by obtain ⟨x, _, rfl⟩ := List.mem_map.1 ht; exact tri_fit x 0
  have F2 : Hid (∀ t ∈ zs.map (tri · 65536), Fit 65536 t) := fun t ht => by obtain ⟨x, _, rfl⟩ := List.mem_map.1 ht; exact tri_fit x 65536
  have C0 : Hid (w1.cell? ⟨w.heap.size, 0, none⟩ = some (.slice a16 (xs.map (tri · 0)).length c16)) := by rw [List.length_map]; exact hc0
  have C1 : Hid (w1.cell? ⟨w.heap.size, 1, none⟩ = some (.slice a32 (zs.map (tri · 65536)).length c32)) := by rw [List.length_map]; exact hc1
  clear hc0 hc1 ht1 ht2 hB1
  go_wp2_with (go_at_call 6; refine (table_call w.heap.size a16 c16 a32 c32 _ _ w1 C0.out C1.out T1.out T2.out (by rw [List.length_map]; omega) (by rw [List.length_map]; omega) F1.out F2.out).mono ?_; rintro e w2 ⟨a', cap', ys', hp, hs, rfl, hR2, hB2⟩)
  obtain ⟨g1, g2, g3⟩ := made_good xs zs ys' hp hs
  have hml : (merge ys').length ≤ 60000 := by
    have h1 := merge_len ys'
    have h2 := hp.length_eq
    have h3 := (pts_len (base := 0) F1.out).1
    have h4 := (pts_len (base := 65536) F2.out).1
    simp at h2 h3 h4; omega
  generalize merge ys' = M at hR2 g1 g2 g3 hml ⊢
  have R2 : Hid (Rng w2 a' M) := hR2
  have B2 : Hid (Below w.heap.size w w2) := B1.out.trans (hB2.mono B1.out.size)
  have G1 : Hid (Well M) := g1
  have G2 : Hid (∀ c, 0 ≤ c → c < 800 → M.any (fun y => within y c) = xs.any (fun x => hit x 0 c)) := g2
  have G3 : Hid (∀ c, 65536 ≤ c → c < 66336 → M.any (fun y => within y c) = zs.any (fun x => hit x 65536 c)) := g3
  clear hp hs hR2 hB2 g1 g2 g3 T1 T2 B1 F1 F2 C0 C1
  go_wp2_with (go_at_call 8; refine (wellSet a' cap' M w2 (by omega) R2.out G1.out).mono ?_; rintro e w3 ⟨rfl, hB3⟩)
  have R3 : Hid (Rng w3 a' M) := R2.out.later hB3
  have B3 : Hid (Below w.heap.size w w3) := B2.out.trans (hB3.mono B2.out.size)
  clear hB3 R2 B2
  go_wp2_with fail
  go_loopw [6] (fun c wr => ∃ k : Nat, k ≤ 800 ∧ c = .int .u32 k ∧ Rng wr a' M ∧ Below w.heap.size w wr) (fun c _ => 800 - (intOf c).toNat)
  case atStart => exact ⟨0, Nat.zero_le _, rfl, R3.out, B3.out⟩
  case round =>
    clear R3 B3
    obtain ⟨k, hk, rfl, hR, hB⟩ := hrel
    have R4 : Hid (Rng wr a' M) := hR
    have B4 : Hid (Below w.heap.size w wr) := hB
    clear hR hB
    by_cases hlt : k < 800
    · obtain ⟨X, hX⟩ : ∃ X, xs.any (fun x => hit x 0 (k : Int)) = X := ⟨_, rfl⟩
      obtain ⟨Y, hY⟩ : ∃ Y, zs.any (fun x => hit x 65536 (65536 + (k : Int))) = Y := ⟨_, rfl⟩
      have m1 : M.any (fun y => within y (k : Int)) = X := by rw [G2.out _ (by omega) (by omega)]; exact hX
      have m2 : M.any (fun y => within y (65536 + (k : Int))) = Y := by rw [G3.out _ (by omega) (by omega)]; exact hY
      have M1 : Hid (M.any (fun y => within y (k : Int)) = X ∧ xs.any (fun x => hit x 0 (k : Int)) = X) := ⟨m1, hX⟩
      have M2 : Hid (M.any (fun y => within y (65536 + (k : Int))) = Y ∧ zs.any (fun x => hit x 65536 (65536 + (k : Int))) = Y) := ⟨m2, hY⟩
      clear m1 m2 hX hY
      go_wp2_with (go_at_call 9; refine (inSet a' cap' M (k : Int) wr (by omega) R4.out).mono ?_; rintro e w5 ⟨rfl, hB5⟩; rw [M1.out.1])
      have R5 : Hid (Rng w5 a' M) := R4.out.later hB5
      have B5 : Hid (Below w.heap.size w w5) := B4.out.trans (hB5.mono B4.out.size)
      clear hB5 R4 B4
      go_wp2_with (go_at_call 10; refine (model a0 cap0 xs 0 (k : Int) w5 hx (IX.out.below B5.out) (.inl rfl) (by omega) (by omega)).mono ?_; rintro e w6 ⟨rfl, hB6⟩; rw [M1.out.2])
      have R6 : Hid (Rng w6 a' M) := R5.out.later hB6
      have B6 : Hid (Below w.heap.size w w6) := B5.out.trans (hB6.mono B5.out.size)
      clear hB6 R5 B5
      go_wp2_with (go_at_call 9; refine (inSet a' cap' M (65536 + (k : Int)) w6 (by omega) R6.out).mono ?_; rintro e w7 ⟨rfl, hB7⟩; rw [M2.out.1])
      have R7 : Hid (Rng w7 a' M) := R6.out.later hB7
      have B7 : Hid (Below w.heap.size w w7) := B6.out.trans (hB7.mono B6.out.size)
      clear hB7 R6 B6
      go_wp2_with (go_at_call 10; refine (model a1 cap1 zs 65536 (65536 + (k : Int)) w7 hz (IZ.out.below B7.out) (.inr rfl) (by omega) (by omega)).mono ?_; rintro e w8 ⟨rfl, hB8⟩; rw [M2.out.2])
      have R8 : Hid (Rng w8 a' M) := R7.out.later hB8
      have B8 : Hid (Below w.heap.size w w8) := B7.out.trans (hB8.mono B7.out.size)
      clear hB8 R7 B7
      go_roundw
      case rel => exact ⟨k + 1, by omega, by go_num, R8.out, B8.out⟩
      case measure => simp [intOf]; omega
    · go_wp2_with fail
      go_ret
      exact ⟨rfl, B4.out⟩
end Go.Proofs.Ybulkbucw
