/-
  THE B LAW's fromTable: both halves laid out, then the union.
-/
import Derived.Test.YbulkbucwBUnion
import Derived.Test.YbulkbucwBPoints
namespace Go.Proofs.Ybulkbucw
open Go.RowKit

theorem table_small {T1 T2 : List (Int × Int × Int)} (h1 : ∀ t ∈ T1, Fit 0 t) (h2 : ∀ t ∈ T2, Fit 65536 t) : ∀ y ∈ pts T1 ++ pts T2, Small y := fun y hy => by
  unfold Small
  rcases List.mem_append.1 hy with h | h
  · obtain ⟨⟨a, _⟩, b, c⟩ := pts_win (.inl rfl) h1 y h; omega
  · obtain ⟨⟨a, _⟩, b, c⟩ := pts_win (.inr rfl) h2 y h; omega

set_option maxRecDepth 100000 in
set_option maxHeartbeats 2000000 in
/-- fromTable. -/
theorem table_call (pb : Nat) (a16 : Option Addr) (c16 : Nat) (a32 : Option Addr) (c32 : Nat) (T1 T2 : List (Int × Int × Int)) (w : World) (hc0 : w.cell? ⟨pb, 0, none⟩ = some (.slice a16 T1.length c16)) (hc1 : w.cell? ⟨pb, 1, none⟩ = some (.slice a32 T2.length c32))
    (ht1 : Tab .u16 w a16 T1) (ht2 : Tab .u32 w a32 T2) (hl1 : T1.length ≤ 300) (hl2 : T2.length ≤ 300) (hf1 : ∀ t ∈ T1, Fit 0 t) (hf2 : ∀ t ∈ T2, Fit 65536 t) :
    Calls Yba.prog 6 #[.pointer (some ⟨pb, 0, none⟩)] w fun e w' => ∃ (a' : Option Addr) (cap' : Nat) (ys' : List (Int × Int)), ys'.Perm (pts T1 ++ pts T2) ∧ ys'.Pairwise (fun x y => x.1 ≤ y.1) ∧ e = .returned (.slice a' (merge ys').length cap') ∧ Rng w' a' (merge ys') ∧ Below w.heap.size w w' := by
  have hpb : pb < w.heap.size := World.block_lt_of_cell? w _ hc0
  have TBT1 : Hid (Tab .u16 w a16 T1) := ht1
  have TBT2 : Hid (Tab .u32 w a32 T2) := ht2
  have FTT1 : Hid (∀ t ∈ T1, Fit 0 t) := hf1
  have FTT2 : Hid (∀ t ∈ T2, Fit 65536 t) := hf2
  have HC1 : Hid (w.cell? ⟨pb, 1, none⟩ = some (.slice a32 T2.length c32)) := hc1
  clear ht1 ht2 hf1 hf2 hc1
  go_enter Yba.func6, Yba.ntmps6
  go_wp2_with fail
  clear hc0
  go_loopw [3, 13] (fun s i wr => ∃ (k : Nat) (PS : List (Int × Int)) (ao : Option Addr) (co : Nat), k ≤ T1.length ∧ s = .slice ao PS.length co ∧ i = .int .i64 k ∧ PS = (pts (T1.take k)) ∧ Own2 wr w.heap.size (.slice ao PS.length co) PS ∧ Below w.heap.size w wr ∧ ((PS = [] ∧ ao = none ∧ co = 0) ∨ 1 ≤ PS.length)) (fun _ i _ => T1.length - (intOf i).toNat)
  case atStart => exact ⟨0, [], none, 0, Nat.zero_le _, rfl, rfl, rfl, Own2.nil _ _, Below.refl _ _, .inl ⟨rfl, rfl, rfl⟩⟩
  case round =>
    obtain ⟨k, PS, ao, co, hk, rfl, rfl, hP, hO, hB, hE⟩ := hrel
    have HP : Hid (PS = (pts (T1.take k))) := hP
    have OW : Hid (Own2 wr w.heap.size (.slice ao PS.length co) PS) := hO
    have BW : Hid (Below w.heap.size w wr) := hB
    have HE : Hid ((PS = [] ∧ ao = none ∧ co = 0) ∨ 1 ≤ PS.length) := hE
    have hpl : PS.length ≤ 60000 := by
      have := (pts_len (base := 0) (ts := T1.take k) fun t ht => FTT1.out t (List.mem_of_mem_take ht)).1
      rw [hP]; simp at this; omega
    have zr : w.heap.size ≤ wr.heap.size := hB.size
    clear hP hO hB hE
    by_cases hlt : k < T1.length
    · obtain ⟨t, ht⟩ : ∃ t, T1[k]? = some t := ⟨T1[k], List.getElem?_eq_getElem hlt⟩
      obtain ⟨b, off, rfl, h0, h1, h2⟩ := TBT1.out.later BW.out k t ht
      have hb' := World.block_lt_of_cell? wr _ h0
      obtain ⟨f1, f2, f3, f4, f5, f6⟩ := FTT1.out t (List.mem_of_getElem? ht)
      obtain ⟨L, U, S⟩ := t
      have HX : Hid (T1[k]? = some (L, U, S)) := ht
      clear ht
      dsimp only at h0 h1 h2 f1 f2 f3 f4 f5 f6
      have O4 : Hid (Own2 (wr.alloc (.cells #[.int .u16 L, .int .u16 U, .int .u16 S] 70)) w.heap.size (.slice ao PS.length co) PS) := World.ownsRow.alloc OW.out _
      have B4 : Hid (Below w.heap.size w (wr.alloc (.cells #[.int .u16 L, .int .u16 U, .int .u16 S] 70))) := BW.out.alloc zr _
      go_wp2_with (go_at_call 14; refine (stride_call w.heap.size ao co PS L U S _ (by simp; omega) O4.out (by omega) (by omega) (by omega) (by omega) (by omega) (by omega) (by omega)).mono ?_; rintro e w2 ⟨a2, cap2, rfl, hO2, hB2⟩; obtain ⟨QS, hQ⟩ : ∃ QS, PS ++ strided L U S = QS := ⟨_, rfl⟩; rw [hQ] at hO2 ⊢; have O2 : Hid (Own2 w2 w.heap.size (.slice a2 QS.length cap2) QS) := hO2; have B2 : Hid (Below w.heap.size w w2) := B4.out.trans hB2; have HQ : Hid (PS ++ strided L U S = QS) := hQ; clear hO2 hB2 hQ)
      go_roundw
      case rel =>
        refine ⟨k + 1, QS, a2, cap2, by omega, rfl, by go_num, ?_, O2.out, B2.out, .inr (by have := (strided_len f3 f5 f4).1; rw [← HQ.out, List.length_append]; omega)⟩
        rw [List.take_add_one, HX.out]
        show QS = pts (T1.take k ++ [(L, U, S)])
        rw [pts_append, pts_one, ← HP.out, HQ.out]
      case measure => simp [intOf]; omega
    · obtain ⟨w3, hw3⟩ : ∃ x, x = wr := ⟨_, rfl⟩
      subst hw3
      have HP1 : Hid (PS = pts T1) := by have := HP.out; rw [List.take_of_length_le (by omega)] at this; exact this
      obtain ⟨P1, hP1⟩ : ∃ x, x = PS := ⟨_, rfl⟩
      subst hP1
      obtain ⟨A1, hA1⟩ : ∃ x, x = ao := ⟨_, rfl⟩
      subst hA1
      obtain ⟨C1, hC1⟩ : ∃ x, x = co := ⟨_, rfl⟩
      subst hC1
      have OW1 : Hid (Own2 w3 w.heap.size (.slice A1 P1.length C1) P1) := OW.out
      have BW1 : Hid (Below w.heap.size w w3) := BW.out
      have HE1 : Hid ((P1 = [] ∧ A1 = none ∧ C1 = 0) ∨ 1 ≤ P1.length) := HE.out
      have d1 : w3.cell? ⟨pb, 1, none⟩ = some (.slice a32 T2.length c32) := by rw [BW1.out.cell (p := ⟨pb, 1, none⟩) hpb]; exact HC1.out
      clear HP OW BW HE hk
      go_wp2_with fail
      clear d1 hlt hpl zr
      go_loopw [3, 34] (fun s i wr => ∃ (k : Nat) (PS : List (Int × Int)) (ao : Option Addr) (co : Nat), k ≤ T2.length ∧ s = .slice ao PS.length co ∧ i = .int .i64 k ∧ PS = (pts T1 ++ pts (T2.take k)) ∧ Own2 wr w.heap.size (.slice ao PS.length co) PS ∧ Below w.heap.size w wr ∧ ((PS = [] ∧ ao = none ∧ co = 0) ∨ 1 ≤ PS.length)) (fun _ i _ => T2.length - (intOf i).toNat)
      case atStart => exact ⟨0, P1, A1, C1, Nat.zero_le _, rfl, rfl, by simpa [pts] using HP1.out, OW1.out, BW1.out, HE1.out⟩
      case round =>
        obtain ⟨k, PS, ao, co, hk, rfl, rfl, hP, hO, hB, hE⟩ := hrel
        have HP : Hid (PS = (pts T1 ++ pts (T2.take k))) := hP
        have OW : Hid (Own2 wr w.heap.size (.slice ao PS.length co) PS) := hO
        have BW : Hid (Below w.heap.size w wr) := hB
        have HE : Hid ((PS = [] ∧ ao = none ∧ co = 0) ∨ 1 ≤ PS.length) := hE
        have hpl : PS.length ≤ 60000 := by
          have h1 := (pts_len (base := 65536) (ts := T2.take k) fun t ht => FTT2.out t (List.mem_of_mem_take ht)).1
          have h2 := (pts_len (base := 0) (ts := T1) FTT1.out).1
          rw [hP]; simp at h1 ⊢; omega
        have zr : w.heap.size ≤ wr.heap.size := hB.size
        clear hP hO hB hE
        by_cases hlt : k < T2.length
        · obtain ⟨t, ht⟩ : ∃ t, T2[k]? = some t := ⟨T2[k], List.getElem?_eq_getElem hlt⟩
          obtain ⟨b, off, rfl, h0, h1, h2⟩ := TBT2.out.later BW.out k t ht
          have hb' := World.block_lt_of_cell? wr _ h0
          obtain ⟨f1, f2, f3, f4, f5, f6⟩ := FTT2.out t (List.mem_of_getElem? ht)
          obtain ⟨L, U, S⟩ := t
          have HX : Hid (T2[k]? = some (L, U, S)) := ht
          clear ht
          dsimp only at h0 h1 h2 f1 f2 f3 f4 f5 f6
          have O4 : Hid (Own2 (wr.alloc (.cells #[.int .u32 L, .int .u32 U, .int .u32 S] 40)) w.heap.size (.slice ao PS.length co) PS) := World.ownsRow.alloc OW.out _
          have B4 : Hid (Below w.heap.size w (wr.alloc (.cells #[.int .u32 L, .int .u32 U, .int .u32 S] 40))) := BW.out.alloc zr _
          go_wp2_with (go_at_call 14; refine (stride_call w.heap.size ao co PS L U S _ (by simp; omega) O4.out (by omega) (by omega) (by omega) (by omega) (by omega) (by omega) (by omega)).mono ?_; rintro e w2 ⟨a2, cap2, rfl, hO2, hB2⟩; obtain ⟨QS, hQ⟩ : ∃ QS, PS ++ strided L U S = QS := ⟨_, rfl⟩; rw [hQ] at hO2 ⊢; have O2 : Hid (Own2 w2 w.heap.size (.slice a2 QS.length cap2) QS) := hO2; have B2 : Hid (Below w.heap.size w w2) := B4.out.trans hB2; have HQ : Hid (PS ++ strided L U S = QS) := hQ; clear hO2 hB2 hQ)
          go_roundw
          case rel =>
            refine ⟨k + 1, QS, a2, cap2, by omega, rfl, by go_num, ?_, O2.out, B2.out, .inr (by have := (strided_len f3 f5 f4).1; rw [← HQ.out, List.length_append]; omega)⟩
            rw [List.take_add_one, HX.out]
            show QS = pts T1 ++ pts (T2.take k ++ [(L, U, S)])
            rw [pts_append, pts_one, ← List.append_assoc, ← HP.out, HQ.out]
          case measure => simp [intOf]; omega
        · have hP2 : PS = pts T1 ++ pts T2 := by have := HP.out; rw [List.take_of_length_le (by omega)] at this; exact this
          rcases HE.out with ⟨rfl, rfl, rfl⟩ | hpos
          · have HPP : Hid (([] : List (Int × Int)).Perm (pts T1 ++ pts T2)) := by rw [← hP2]; exact List.Perm.refl _
            clear hP2
            go_wp2_with (go_at_call 15; refine (union_nil wr.heap.size _ (by simp)).mono ?_; rintro e w2 ⟨rfl, hB2⟩)
            go_wp2_with fail
            go_ret
            refine ⟨none, 0, [], HPP.out, List.Pairwise.nil, rfl, fun i y hy => by simp [merge] at hy, ?_⟩
            exact (BW.out.alloc zr _).trans (hB2.mono (by simp; omega))
          · obtain ⟨g0, cc, e, _, hg0⟩ := World.ownsRow.form OW.out (by omega)
            cases e
            have O4 : Hid (Own2 (wr.alloc (.cells #[.slice (some ⟨g0, 0, none⟩) PS.length co] 24)) w.heap.size (.slice (some ⟨g0, 0, none⟩) PS.length co) PS) := World.ownsRow.alloc OW.out _
            have hsm : Hid (∀ y ∈ PS, Small y) := by rw [hP2]; exact table_small FTT1.out FTT2.out
            have HPP : Hid (PS = pts T1 ++ pts T2) := hP2
            clear hP2
            go_wp2_with (go_at_call 15; refine (union_some wr.heap.size g0 co w.heap.size PS _ (by simp) O4.out hpos hpl hsm.out).mono ?_; rintro e w2 ⟨a2, cap2, ys', hp, hs, rfl, hO2, hB2⟩)
            have R2 : Hid (Rng w2 a2 (merge ys')) := hO2.rng
            have B2 : Hid (Below w.heap.size w w2) := (BW.out.alloc zr _).trans (hB2.mono (by simp; omega))
            have HH : Hid (ys'.Perm PS ∧ ys'.Pairwise (fun x y => x.1 ≤ y.1)) := ⟨hp, hs⟩
            clear hO2 hB2 hp hs
            go_wp2_with fail
            go_ret
            exact ⟨a2, cap2, ys', by rw [← HPP.out]; exact HH.out.1, HH.out.2, rfl, R2.out, B2.out⟩
end Go.Proofs.Ybulkbucw
