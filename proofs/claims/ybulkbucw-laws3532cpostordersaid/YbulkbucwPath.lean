/-
  visitXPath at a Path, and at every tree: THE WALKS.
-/
import Derived.Test.YbulkbucwVisit
namespace Go.Proofs.Ybulkbucw
open Go.RowKit

theorem neq_nil (w : World) : (binOp .neq 45 .nilIface .nilIface).run Yba.prog w = .ok (.bool false) w := by kernel_rfl
theorem neq_some (T : Nat) (v : Value) (w : World) : (binOp .neq 45 (.iface T v) .nilIface).run Yba.prog w = .ok (.bool true) w := by kernel_rfl

set_option maxRecDepth 100000 in
set_option maxHeartbeats 2000000 in
theorem visit_path_nil (d : Nat) (ih : Visits d) (b L : Nat) (S : Nat → Prop) (pf pp ps : List Value) (xs us : List Value) (rows : List (List Value)) (w : World) (pv sv : Value) (hS : ∀ b, S b → b < L) (hb : S b)
    (hc0 : w.cell? ⟨b, 0, none⟩ = some .nilIface) (hpf : pf = []) (hc1 : w.cell? ⟨b, 1, none⟩ = some pv) (hc3 : w.cell? ⟨b, 3, none⟩ = some sv) (hsl : SliceOf w S pv us) (hfp : Forest (Tree d w S) us pp) (hst : StepsOf w S sv rows) (hfs : Forest (Tree d w S) rows.flatten ps)
    (hx : xs.length + (pf ++ (pp ++ ps)).length ≤ 7999) (h : LogAt w L xs) :
    Calls Yba.prog 12 #[.iface 56 (.pointer (some ⟨b, 0, none⟩)), .func (.func 13) #[] #[.pointer (some ⟨L, 0, none⟩)]] w fun e w' => e = .returned (.tuple #[]) ∧ Below L w w' ∧ LogAt w' L (xs ++ ((pf ++ (pp ++ ps)) ++ [.iface 56 (.pointer (some ⟨b, 0, none⟩))])) := by
  obtain ⟨a1, cap1, rfl, hel⟩ := hsl
  obtain ⟨a3, cap3, hnr, rfl, hels⟩ := hst
  have IH : Hid (Visits d) := ih
  have HEL : Hid (∀ (i : Nat) (u : Value), us[i]? = some u → ∃ g off, a1 = some ⟨g, off, none⟩ ∧ S g ∧ w.cell? ⟨g, off + i, none⟩ = some u) := hel
  have HELS : Hid (∀ (i : Nat) (us : List Value), rows[i]? = some us → ∃ g off pv, a3 = some ⟨g, off, none⟩ ∧ S g ∧ w.cell? ⟨g, off + (i * 8 + 5), none⟩ = some pv ∧ SliceOf w S pv us) := hels
  have HS : Hid (∀ b, S b → b < L) := hS
  have HFP : Hid (Forest (Tree d w S) us pp) := hfp
  have HFS : Hid (Forest (Tree d w S) rows.flatten ps) := hfs
  have hn : us.length ≤ 7999 := by have := Forest.len hfp; simp at hx; omega
  clear ih hel hels hS hfp hfs
  have HB1 : Hid (Below L w w) := Below.refl _ _
  have HL1 : Hid (LogAt w L (xs ++ pf)) := by rw [hpf, List.append_nil]; exact h
  clear h hpf
  have qn := neq_nil
  have a1' := as_56_50; have a2' := as_56_47; have a3' := as_56_53; have a4' := as_56_56
  go_enter Yba.func12, Yba.ntmps12
  go_wp2_with fail
  clear hc0 qn a1' a2' a3' a4'
  go_loopw [78] (fun i wr3 => ∃ (n : Nat) (p1 p2 : List Value), n ≤ us.length ∧ i = .int .i64 n ∧ pp = p1 ++ p2 ∧ Forest (Tree d w S) (us.drop n) p2 ∧ Below L w wr3 ∧ LogAt wr3 L ((xs ++ pf) ++ p1)) (fun i _ => us.length - (intOf i).toNat)
  case atStart => exact ⟨0, [], pp, Nat.zero_le _, rfl, rfl, HFP.out, HB1.out, by rw [List.append_nil]; exact HL1.out⟩
  case round =>
    obtain ⟨wr3, hwr⟩ : ∃ x, x = wr := ⟨_, rfl⟩
    subst hwr
    obtain ⟨n3, p13, p23, hn3, rfl, hp, hf2, hb2, hl2⟩ := hrel
    have HP3 : Hid (pp = p13 ++ p23) := hp
    have HF23 : Hid (Forest (Tree d w S) (us.drop n3) p23) := hf2
    have HB23 : Hid (Below L w wr3) := hb2
    have HL23 : Hid (LogAt wr3 L ((xs ++ pf) ++ p13)) := hl2
    clear hp hf2 hb2 hl2
    by_cases hlt3 : n3 < us.length
    · obtain ⟨u, hu⟩ : ∃ u, us[n3]? = some u := ⟨us[n3], List.getElem?_eq_getElem hlt3⟩
      obtain ⟨q1, q2, hp2, ht, hf3⟩ := HF23.out.next hu
      obtain ⟨g, off, rfl, hg, hcu⟩ := HEL.out n3 u hu
      have hcw : wr3.cell? ⟨g, off + n3, none⟩ = some u := by rw [HB23.out.cell (p := ⟨g, off + n3, none⟩) (HS.out g hg)]; exact hcu
      have hlen : ((xs ++ pf) ++ p13).length + q1.length ≤ 8000 := by
        have e1 := congrArg List.length HP3.out
        rw [hp2] at e1
        simp at e1 hx ⊢
        omega
      have H : Hid (Calls Yba.prog 12 #[u, .func (.func 13) #[] #[.pointer (some ⟨L, 0, none⟩)]] wr3 fun e w' => e = .returned (.tuple #[]) ∧ Below L wr3 w' ∧ LogAt w' L (((xs ++ pf) ++ p13) ++ q1)) :=
        IH.out L S u q1 ((xs ++ pf) ++ p13) wr3 HS.out (ht.mono (fun _ h => h) (fun b o hb => HB23.out.cell (p := ⟨b, o, none⟩) (HS.out b hb)) (Nat.le_refl _)) HL23.out hlen
      have HF3 : Hid (Forest (Tree d w S) (us.drop (n3 + 1)) q2) := hf3
      have HP2 : Hid (p23 = q1 ++ q2) := hp2
      clear hcu ht hf3 hu hp2 hlen
      go_wp2_with fail
      refine H.out.mono ?_
      rintro e w1 ⟨rfl, b1, l1⟩
      have B1 : Hid (Below L w w1) := HB23.out.trans b1
      have L1 : Hid (LogAt w1 L ((xs ++ pf) ++ (p13 ++ q1))) := by rw [List.append_assoc ((xs ++ pf))] at l1; exact l1
      clear b1 l1 H
      go_wp2_with fail
      go_roundw
      case rel => exact ⟨n3 + 1, p13 ++ q1, q2, by omega, by go_num, by rw [HP3.out, HP2.out, List.append_assoc], HF3.out, B1.out, L1.out⟩
      case measure => simp [intOf]; omega
    · have HP33 : Hid (pp = p13) := by
        have h1 := HF23.out
        rw [List.drop_eq_nil_of_le (by omega)] at h1
        have h2 : p23 = [] := h1
        have := HP3.out
        rw [h2, List.append_nil] at this
        exact this
      obtain ⟨X1, hX1⟩ : ∃ X1, X1 = (xs ++ pf) ++ pp := ⟨_, rfl⟩
      have HX1 : Hid (X1 = (xs ++ pf) ++ pp) := hX1
      have hs3 : wr3.cell? ⟨b, 3, none⟩ = some (.slice a3 rows.length cap3) := by rw [HB23.out.cell (p := ⟨b, 3, none⟩) (HS.out b hb)]; exact hc3
      have HL3 : Hid (LogAt wr3 L X1) := by rw [hX1, HP33.out]; exact HL23.out
      clear hX1
      go_wp2_with fail
      clear hs3
      go_loopw [91] (fun i wr4 => ∃ (n : Nat) (p1 p2 : List Value), n ≤ rows.length ∧ i = .int .i64 n ∧ ps = p1 ++ p2 ∧ Forest (Tree d w S) ((rows.drop n).flatten) p2 ∧ Below L w wr4 ∧ LogAt wr4 L (X1 ++ p1)) (fun i _ => rows.length - (intOf i).toNat)
      case atStart => exact ⟨0, [], ps, Nat.zero_le _, rfl, rfl, HFS.out, HB23.out, by rw [List.append_nil]; exact HL3.out⟩
      case round =>
        obtain ⟨wr4, hwr⟩ : ∃ x, x = wr := ⟨_, rfl⟩
        subst hwr
        obtain ⟨n4, p14, p24, hn4, rfl, hp, hf2, hb2, hl2⟩ := hrel
        have HP4 : Hid (ps = p14 ++ p24) := hp
        have HF24 : Hid (Forest (Tree d w S) ((rows.drop n4).flatten) p24) := hf2
        have HB24 : Hid (Below L w wr4) := hb2
        have HL24 : Hid (LogAt wr4 L (X1 ++ p14)) := hl2
        clear hp hf2 hb2 hl2
        by_cases hlt4 : n4 < rows.length
        · obtain ⟨us4, hu4⟩ : ∃ u, rows[n4]? = some u := ⟨rows[n4], List.getElem?_eq_getElem hlt4⟩
          obtain ⟨r1, r2, hr, hfa, hfb⟩ := HF24.out.row hu4
          obtain ⟨g3, off3, pv4, rfl, hg3, hc4, a4, cap4, rfl, hel4⟩ := HELS.out n4 us4 hu4
          have hs4 : wr4.cell? ⟨b, 3, none⟩ = some (.slice (some ⟨g3, off3, none⟩) rows.length cap3) := by rw [HB24.out.cell (p := ⟨b, 3, none⟩) (HS.out b hb)]; exact hc3
          have hs5 : wr4.cell? ⟨g3, off3 + (n4 * 8 + 5), none⟩ = some (.slice a4 us4.length cap4) := by rw [HB24.out.cell (p := ⟨g3, off3 + (n4 * 8 + 5), none⟩) (HS.out g3 hg3)]; exact hc4
          have hs6 : wr4.cell? ⟨g3, off3 + n4 * 8 + 5, none⟩ = some (.slice a4 us4.length cap4) := by rw [Nat.add_assoc]; exact hs5
          have HEL4 : Hid (∀ (i : Nat) (u : Value), us4[i]? = some u → ∃ g off, a4 = some ⟨g, off, none⟩ ∧ S g ∧ w.cell? ⟨g, off + i, none⟩ = some u) := hel4
          have HR : Hid (p24 = r1 ++ r2) := hr
          have HF4a : Hid (Forest (Tree d w S) us4 r1) := hfa
          have HF4b : Hid (Forest (Tree d w S) ((rows.drop (n4 + 1)).flatten) r2) := hfb
          have hx4 : X1.length + p14.length + r1.length ≤ 7999 := by
            have e1 := congrArg List.length HP4.out
            have e2 := congrArg List.length HX1.out
            have e3 := congrArg List.length HR.out
            simp at e1 e2 e3 hx
            omega
          have hn5 : us4.length ≤ 7999 := by have := Forest.len hfa; omega
          clear hr hfa hfb hel4 hc4 hs5
          go_wp2_with fail
          clear hs4 hs6
          go_loopw [103] (fun i wr5 => ∃ (n : Nat) (p1 p2 : List Value), n ≤ us4.length ∧ i = .int .i64 n ∧ r1 = p1 ++ p2 ∧ Forest (Tree d w S) (us4.drop n) p2 ∧ Below L w wr5 ∧ LogAt wr5 L ((X1 ++ p14) ++ p1)) (fun i _ => us4.length - (intOf i).toNat)
          case atStart => exact ⟨0, [], r1, Nat.zero_le _, rfl, rfl, HF4a.out, HB24.out, by rw [List.append_nil]; exact HL24.out⟩
          case round =>
            obtain ⟨wr5, hwr⟩ : ∃ x, x = wr := ⟨_, rfl⟩
            subst hwr
            obtain ⟨n5, p15, p25, hn5, rfl, hp, hf2, hb2, hl2⟩ := hrel
            have HP5 : Hid (r1 = p15 ++ p25) := hp
            have HF25 : Hid (Forest (Tree d w S) (us4.drop n5) p25) := hf2
            have HB25 : Hid (Below L w wr5) := hb2
            have HL25 : Hid (LogAt wr5 L ((X1 ++ p14) ++ p15)) := hl2
            clear hp hf2 hb2 hl2
            by_cases hlt5 : n5 < us4.length
            · obtain ⟨u, hu⟩ : ∃ u, us4[n5]? = some u := ⟨us4[n5], List.getElem?_eq_getElem hlt5⟩
              obtain ⟨q1, q2, hp2, ht, hf3⟩ := HF25.out.next hu
              obtain ⟨g, off, rfl, hg, hcu⟩ := HEL4.out n5 u hu
              have hcw : wr5.cell? ⟨g, off + n5, none⟩ = some u := by rw [HB25.out.cell (p := ⟨g, off + n5, none⟩) (HS.out g hg)]; exact hcu
              have hlen : ((X1 ++ p14) ++ p15).length + q1.length ≤ 8000 := by
                have e1 := congrArg List.length HP5.out
                rw [hp2] at e1
                simp at e1 hx ⊢
                omega
              have H : Hid (Calls Yba.prog 12 #[u, .func (.func 13) #[] #[.pointer (some ⟨L, 0, none⟩)]] wr5 fun e w' => e = .returned (.tuple #[]) ∧ Below L wr5 w' ∧ LogAt w' L (((X1 ++ p14) ++ p15) ++ q1)) :=
                IH.out L S u q1 ((X1 ++ p14) ++ p15) wr5 HS.out (ht.mono (fun _ h => h) (fun b o hb => HB25.out.cell (p := ⟨b, o, none⟩) (HS.out b hb)) (Nat.le_refl _)) HL25.out hlen
              have HF3 : Hid (Forest (Tree d w S) (us4.drop (n5 + 1)) q2) := hf3
              have HP2 : Hid (p25 = q1 ++ q2) := hp2
              clear hcu ht hf3 hu hp2 hlen
              go_wp2_with fail
              refine H.out.mono ?_
              rintro e w1 ⟨rfl, b1, l1⟩
              have B1 : Hid (Below L w w1) := HB25.out.trans b1
              have L1 : Hid (LogAt w1 L ((X1 ++ p14) ++ (p15 ++ q1))) := by rw [List.append_assoc ((X1 ++ p14))] at l1; exact l1
              clear b1 l1 H
              go_wp2_with fail
              go_roundw
              case rel => exact ⟨n5 + 1, p15 ++ q1, q2, by omega, by go_num, by rw [HP5.out, HP2.out, List.append_assoc], HF3.out, B1.out, L1.out⟩
              case measure => simp [intOf]; omega
            · have HP35 : Hid (r1 = p15) := by
                have h1 := HF25.out
                rw [List.drop_eq_nil_of_le (by omega)] at h1
                have h2 : p25 = [] := h1
                have := HP5.out
                rw [h2, List.append_nil] at this
                exact this
              have L5 : Hid (LogAt wr5 L ((X1 ++ p14) ++ r1)) := by rw [HP35.out]; exact HL25.out
              go_wp2_with fail
              go_roundw
              case rel => exact ⟨n4 + 1, p14 ++ r1, r2, by omega, by go_num, by rw [HP4.out, HR.out, List.append_assoc], HF4b.out, HB25.out, by rw [← List.append_assoc]; exact L5.out⟩
              case measure => simp [intOf]; omega
        · have HP34 : Hid (ps = p14) := by
            have h1 := HF24.out
            rw [List.drop_eq_nil_of_le (by omega)] at h1
            have h2 : p24 = [] := h1
            have := HP4.out
            rw [h2, List.append_nil] at this
            exact this
          have hlast : (X1 ++ p14).length ≤ 10000 := by
            have e1 := congrArg List.length HP34.out
            have e2 := congrArg List.length HX1.out
            simp at e1 e2 hx ⊢
            omega
          go_wp2_with fail
          refine (log_one 56 b L (X1 ++ p14) wr4 hlast HL24.out).mono ?_
          rintro e w2 ⟨rfl, b2, l2⟩
          have B2 : Hid (Below L w w2) := HB24.out.trans b2
          have L2 : Hid (LogAt w2 L (xs ++ ((pf ++ (pp ++ ps)) ++ [.iface 56 (.pointer (some ⟨b, 0, none⟩))]))) := by
            rw [HX1.out, ← HP34.out] at l2
            have e : ((xs ++ pf) ++ pp ++ ps) ++ [Value.iface 56 (.pointer (some ⟨b, 0, none⟩))] = xs ++ ((pf ++ (pp ++ ps)) ++ [.iface 56 (.pointer (some ⟨b, 0, none⟩))]) := by simp [List.append_assoc]
            rw [← e]; exact l2
          clear b2 l2
          go_wp2_with fail
          go_end0
          exact ⟨rfl, B2.out, L2.out⟩

set_option maxRecDepth 100000 in
set_option maxHeartbeats 2000000 in
theorem visit_path_some (d : Nat) (ih : Visits d) (b L : Nat) (S : Nat → Prop) (pf pp ps : List Value) (xs us : List Value) (rows : List (List Value)) (w : World) (T0 : Nat) (v0 : Value) (pv sv : Value) (hS : ∀ b, S b → b < L) (hb : S b)
    (hc0 : w.cell? ⟨b, 0, none⟩ = some (.iface T0 v0)) (htf : Tree d w S (.iface T0 v0) pf) (hc1 : w.cell? ⟨b, 1, none⟩ = some pv) (hc3 : w.cell? ⟨b, 3, none⟩ = some sv) (hsl : SliceOf w S pv us) (hfp : Forest (Tree d w S) us pp) (hst : StepsOf w S sv rows) (hfs : Forest (Tree d w S) rows.flatten ps)
    (hx : xs.length + (pf ++ (pp ++ ps)).length ≤ 7999) (h : LogAt w L xs) :
    Calls Yba.prog 12 #[.iface 56 (.pointer (some ⟨b, 0, none⟩)), .func (.func 13) #[] #[.pointer (some ⟨L, 0, none⟩)]] w fun e w' => e = .returned (.tuple #[]) ∧ Below L w w' ∧ LogAt w' L (xs ++ ((pf ++ (pp ++ ps)) ++ [.iface 56 (.pointer (some ⟨b, 0, none⟩))])) := by
  obtain ⟨a1, cap1, rfl, hel⟩ := hsl
  obtain ⟨a3, cap3, hnr, rfl, hels⟩ := hst
  have IH : Hid (Visits d) := ih
  have HEL : Hid (∀ (i : Nat) (u : Value), us[i]? = some u → ∃ g off, a1 = some ⟨g, off, none⟩ ∧ S g ∧ w.cell? ⟨g, off + i, none⟩ = some u) := hel
  have HELS : Hid (∀ (i : Nat) (us : List Value), rows[i]? = some us → ∃ g off pv, a3 = some ⟨g, off, none⟩ ∧ S g ∧ w.cell? ⟨g, off + (i * 8 + 5), none⟩ = some pv ∧ SliceOf w S pv us) := hels
  have HS : Hid (∀ b, S b → b < L) := hS
  have HFP : Hid (Forest (Tree d w S) us pp) := hfp
  have HFS : Hid (Forest (Tree d w S) rows.flatten ps) := hfs
  have hn : us.length ≤ 7999 := by have := Forest.len hfp; simp at hx; omega
  clear ih hel hels hS hfp hfs
  have H : Hid (Calls Yba.prog 12 #[.iface T0 v0, .func (.func 13) #[] #[.pointer (some ⟨L, 0, none⟩)]] w fun e w' => e = .returned (.tuple #[]) ∧ Below L w w' ∧ LogAt w' L (xs ++ pf)) := IH.out L S _ pf xs w HS.out htf h (by simp at hx; omega)
  clear h htf
  have qn := neq_some T0 v0
  have a1' := as_56_50; have a2' := as_56_47; have a3' := as_56_53; have a4' := as_56_56
  go_enter Yba.func12, Yba.ntmps12
  go_wp2_with fail
  refine H.out.mono ?_
  rintro e w1 ⟨rfl, b1, l1⟩
  have HB1 : Hid (Below L w w1) := b1
  have HL1 : Hid (LogAt w1 L (xs ++ pf)) := l1
  have hd1 : w1.cell? ⟨b, 1, none⟩ = some (.slice a1 us.length cap1) := by rw [b1.cell (p := ⟨b, 1, none⟩) (HS.out b hb)]; exact hc1
  clear b1 l1 H
  go_wp2_with fail
  clear hc0 hd1 qn a1' a2' a3' a4'
  go_loopw [78] (fun i wr3 => ∃ (n : Nat) (p1 p2 : List Value), n ≤ us.length ∧ i = .int .i64 n ∧ pp = p1 ++ p2 ∧ Forest (Tree d w S) (us.drop n) p2 ∧ Below L w wr3 ∧ LogAt wr3 L ((xs ++ pf) ++ p1)) (fun i _ => us.length - (intOf i).toNat)
  case atStart => exact ⟨0, [], pp, Nat.zero_le _, rfl, rfl, HFP.out, HB1.out, by rw [List.append_nil]; exact HL1.out⟩
  case round =>
    obtain ⟨wr3, hwr⟩ : ∃ x, x = wr := ⟨_, rfl⟩
    subst hwr
    obtain ⟨n3, p13, p23, hn3, rfl, hp, hf2, hb2, hl2⟩ := hrel
    have HP3 : Hid (pp = p13 ++ p23) := hp
    have HF23 : Hid (Forest (Tree d w S) (us.drop n3) p23) := hf2
    have HB23 : Hid (Below L w wr3) := hb2
    have HL23 : Hid (LogAt wr3 L ((xs ++ pf) ++ p13)) := hl2
    clear hp hf2 hb2 hl2
    by_cases hlt3 : n3 < us.length
    · obtain ⟨u, hu⟩ : ∃ u, us[n3]? = some u := ⟨us[n3], List.getElem?_eq_getElem hlt3⟩
      obtain ⟨q1, q2, hp2, ht, hf3⟩ := HF23.out.next hu
      obtain ⟨g, off, rfl, hg, hcu⟩ := HEL.out n3 u hu
      have hcw : wr3.cell? ⟨g, off + n3, none⟩ = some u := by rw [HB23.out.cell (p := ⟨g, off + n3, none⟩) (HS.out g hg)]; exact hcu
      have hlen : ((xs ++ pf) ++ p13).length + q1.length ≤ 8000 := by
        have e1 := congrArg List.length HP3.out
        rw [hp2] at e1
        simp at e1 hx ⊢
        omega
      have H : Hid (Calls Yba.prog 12 #[u, .func (.func 13) #[] #[.pointer (some ⟨L, 0, none⟩)]] wr3 fun e w' => e = .returned (.tuple #[]) ∧ Below L wr3 w' ∧ LogAt w' L (((xs ++ pf) ++ p13) ++ q1)) :=
        IH.out L S u q1 ((xs ++ pf) ++ p13) wr3 HS.out (ht.mono (fun _ h => h) (fun b o hb => HB23.out.cell (p := ⟨b, o, none⟩) (HS.out b hb)) (Nat.le_refl _)) HL23.out hlen
      have HF3 : Hid (Forest (Tree d w S) (us.drop (n3 + 1)) q2) := hf3
      have HP2 : Hid (p23 = q1 ++ q2) := hp2
      clear hcu ht hf3 hu hp2 hlen
      go_wp2_with fail
      refine H.out.mono ?_
      rintro e w1 ⟨rfl, b1, l1⟩
      have B1 : Hid (Below L w w1) := HB23.out.trans b1
      have L1 : Hid (LogAt w1 L ((xs ++ pf) ++ (p13 ++ q1))) := by rw [List.append_assoc ((xs ++ pf))] at l1; exact l1
      clear b1 l1 H
      go_wp2_with fail
      go_roundw
      case rel => exact ⟨n3 + 1, p13 ++ q1, q2, by omega, by go_num, by rw [HP3.out, HP2.out, List.append_assoc], HF3.out, B1.out, L1.out⟩
      case measure => simp [intOf]; omega
    · have HP33 : Hid (pp = p13) := by
        have h1 := HF23.out
        rw [List.drop_eq_nil_of_le (by omega)] at h1
        have h2 : p23 = [] := h1
        have := HP3.out
        rw [h2, List.append_nil] at this
        exact this
      obtain ⟨X1, hX1⟩ : ∃ X1, X1 = (xs ++ pf) ++ pp := ⟨_, rfl⟩
      have HX1 : Hid (X1 = (xs ++ pf) ++ pp) := hX1
      have hs3 : wr3.cell? ⟨b, 3, none⟩ = some (.slice a3 rows.length cap3) := by rw [HB23.out.cell (p := ⟨b, 3, none⟩) (HS.out b hb)]; exact hc3
      have HL3 : Hid (LogAt wr3 L X1) := by rw [hX1, HP33.out]; exact HL23.out
      clear hX1
      go_wp2_with fail
      clear hs3
      go_loopw [91] (fun i wr4 => ∃ (n : Nat) (p1 p2 : List Value), n ≤ rows.length ∧ i = .int .i64 n ∧ ps = p1 ++ p2 ∧ Forest (Tree d w S) ((rows.drop n).flatten) p2 ∧ Below L w wr4 ∧ LogAt wr4 L (X1 ++ p1)) (fun i _ => rows.length - (intOf i).toNat)
      case atStart => exact ⟨0, [], ps, Nat.zero_le _, rfl, rfl, HFS.out, HB23.out, by rw [List.append_nil]; exact HL3.out⟩
      case round =>
        obtain ⟨wr4, hwr⟩ : ∃ x, x = wr := ⟨_, rfl⟩
        subst hwr
        obtain ⟨n4, p14, p24, hn4, rfl, hp, hf2, hb2, hl2⟩ := hrel
        have HP4 : Hid (ps = p14 ++ p24) := hp
        have HF24 : Hid (Forest (Tree d w S) ((rows.drop n4).flatten) p24) := hf2
        have HB24 : Hid (Below L w wr4) := hb2
        have HL24 : Hid (LogAt wr4 L (X1 ++ p14)) := hl2
        clear hp hf2 hb2 hl2
        by_cases hlt4 : n4 < rows.length
        · obtain ⟨us4, hu4⟩ : ∃ u, rows[n4]? = some u := ⟨rows[n4], List.getElem?_eq_getElem hlt4⟩
          obtain ⟨r1, r2, hr, hfa, hfb⟩ := HF24.out.row hu4
          obtain ⟨g3, off3, pv4, rfl, hg3, hc4, a4, cap4, rfl, hel4⟩ := HELS.out n4 us4 hu4
          have hs4 : wr4.cell? ⟨b, 3, none⟩ = some (.slice (some ⟨g3, off3, none⟩) rows.length cap3) := by rw [HB24.out.cell (p := ⟨b, 3, none⟩) (HS.out b hb)]; exact hc3
          have hs5 : wr4.cell? ⟨g3, off3 + (n4 * 8 + 5), none⟩ = some (.slice a4 us4.length cap4) := by rw [HB24.out.cell (p := ⟨g3, off3 + (n4 * 8 + 5), none⟩) (HS.out g3 hg3)]; exact hc4
          have hs6 : wr4.cell? ⟨g3, off3 + n4 * 8 + 5, none⟩ = some (.slice a4 us4.length cap4) := by rw [Nat.add_assoc]; exact hs5
          have HEL4 : Hid (∀ (i : Nat) (u : Value), us4[i]? = some u → ∃ g off, a4 = some ⟨g, off, none⟩ ∧ S g ∧ w.cell? ⟨g, off + i, none⟩ = some u) := hel4
          have HR : Hid (p24 = r1 ++ r2) := hr
          have HF4a : Hid (Forest (Tree d w S) us4 r1) := hfa
          have HF4b : Hid (Forest (Tree d w S) ((rows.drop (n4 + 1)).flatten) r2) := hfb
          have hx4 : X1.length + p14.length + r1.length ≤ 7999 := by
            have e1 := congrArg List.length HP4.out
            have e2 := congrArg List.length HX1.out
            have e3 := congrArg List.length HR.out
            simp at e1 e2 e3 hx
            omega
          have hn5 : us4.length ≤ 7999 := by have := Forest.len hfa; omega
          clear hr hfa hfb hel4 hc4 hs5
          go_wp2_with fail
          clear hs4 hs6
          go_loopw [103] (fun i wr5 => ∃ (n : Nat) (p1 p2 : List Value), n ≤ us4.length ∧ i = .int .i64 n ∧ r1 = p1 ++ p2 ∧ Forest (Tree d w S) (us4.drop n) p2 ∧ Below L w wr5 ∧ LogAt wr5 L ((X1 ++ p14) ++ p1)) (fun i _ => us4.length - (intOf i).toNat)
          case atStart => exact ⟨0, [], r1, Nat.zero_le _, rfl, rfl, HF4a.out, HB24.out, by rw [List.append_nil]; exact HL24.out⟩
          case round =>
            obtain ⟨wr5, hwr⟩ : ∃ x, x = wr := ⟨_, rfl⟩
            subst hwr
            obtain ⟨n5, p15, p25, hn5, rfl, hp, hf2, hb2, hl2⟩ := hrel
            have HP5 : Hid (r1 = p15 ++ p25) := hp
            have HF25 : Hid (Forest (Tree d w S) (us4.drop n5) p25) := hf2
            have HB25 : Hid (Below L w wr5) := hb2
            have HL25 : Hid (LogAt wr5 L ((X1 ++ p14) ++ p15)) := hl2
            clear hp hf2 hb2 hl2
            by_cases hlt5 : n5 < us4.length
            · obtain ⟨u, hu⟩ : ∃ u, us4[n5]? = some u := ⟨us4[n5], List.getElem?_eq_getElem hlt5⟩
              obtain ⟨q1, q2, hp2, ht, hf3⟩ := HF25.out.next hu
              obtain ⟨g, off, rfl, hg, hcu⟩ := HEL4.out n5 u hu
              have hcw : wr5.cell? ⟨g, off + n5, none⟩ = some u := by rw [HB25.out.cell (p := ⟨g, off + n5, none⟩) (HS.out g hg)]; exact hcu
              have hlen : ((X1 ++ p14) ++ p15).length + q1.length ≤ 8000 := by
                have e1 := congrArg List.length HP5.out
                rw [hp2] at e1
                simp at e1 hx ⊢
                omega
              have H : Hid (Calls Yba.prog 12 #[u, .func (.func 13) #[] #[.pointer (some ⟨L, 0, none⟩)]] wr5 fun e w' => e = .returned (.tuple #[]) ∧ Below L wr5 w' ∧ LogAt w' L (((X1 ++ p14) ++ p15) ++ q1)) :=
                IH.out L S u q1 ((X1 ++ p14) ++ p15) wr5 HS.out (ht.mono (fun _ h => h) (fun b o hb => HB25.out.cell (p := ⟨b, o, none⟩) (HS.out b hb)) (Nat.le_refl _)) HL25.out hlen
              have HF3 : Hid (Forest (Tree d w S) (us4.drop (n5 + 1)) q2) := hf3
              have HP2 : Hid (p25 = q1 ++ q2) := hp2
              clear hcu ht hf3 hu hp2 hlen
              go_wp2_with fail
              refine H.out.mono ?_
              rintro e w1 ⟨rfl, b1, l1⟩
              have B1 : Hid (Below L w w1) := HB25.out.trans b1
              have L1 : Hid (LogAt w1 L ((X1 ++ p14) ++ (p15 ++ q1))) := by rw [List.append_assoc ((X1 ++ p14))] at l1; exact l1
              clear b1 l1 H
              go_wp2_with fail
              go_roundw
              case rel => exact ⟨n5 + 1, p15 ++ q1, q2, by omega, by go_num, by rw [HP5.out, HP2.out, List.append_assoc], HF3.out, B1.out, L1.out⟩
              case measure => simp [intOf]; omega
            · have HP35 : Hid (r1 = p15) := by
                have h1 := HF25.out
                rw [List.drop_eq_nil_of_le (by omega)] at h1
                have h2 : p25 = [] := h1
                have := HP5.out
                rw [h2, List.append_nil] at this
                exact this
              have L5 : Hid (LogAt wr5 L ((X1 ++ p14) ++ r1)) := by rw [HP35.out]; exact HL25.out
              go_wp2_with fail
              go_roundw
              case rel => exact ⟨n4 + 1, p14 ++ r1, r2, by omega, by go_num, by rw [HP4.out, HR.out, List.append_assoc], HF4b.out, HB25.out, by rw [← List.append_assoc]; exact L5.out⟩
              case measure => simp [intOf]; omega
        · have HP34 : Hid (ps = p14) := by
            have h1 := HF24.out
            rw [List.drop_eq_nil_of_le (by omega)] at h1
            have h2 : p24 = [] := h1
            have := HP4.out
            rw [h2, List.append_nil] at this
            exact this
          have hlast : (X1 ++ p14).length ≤ 10000 := by
            have e1 := congrArg List.length HP34.out
            have e2 := congrArg List.length HX1.out
            simp at e1 e2 hx ⊢
            omega
          go_wp2_with fail
          refine (log_one 56 b L (X1 ++ p14) wr4 hlast HL24.out).mono ?_
          rintro e w2 ⟨rfl, b2, l2⟩
          have B2 : Hid (Below L w w2) := HB24.out.trans b2
          have L2 : Hid (LogAt w2 L (xs ++ ((pf ++ (pp ++ ps)) ++ [.iface 56 (.pointer (some ⟨b, 0, none⟩))]))) := by
            rw [HX1.out, ← HP34.out] at l2
            have e : ((xs ++ pf) ++ pp ++ ps) ++ [Value.iface 56 (.pointer (some ⟨b, 0, none⟩))] = xs ++ ((pf ++ (pp ++ ps)) ++ [.iface 56 (.pointer (some ⟨b, 0, none⟩))]) := by simp [List.append_assoc]
            rw [← e]; exact l2
          clear b2 l2
          go_wp2_with fail
          go_end0
          exact ⟨rfl, B2.out, L2.out⟩

theorem visits : ∀ d, Visits d
  | 0 => fun _ _ _ _ _ _ _ h _ _ => False.elim h
  | d + 1 => fun L S v post xs w hS ht hl hx => by
    have ih := visits d
    obtain ⟨T, b, p, rfl, rfl, h⟩ := ht
    have hx' : xs.length + p.length ≤ 7999 := by simp at hx; omega
    rcases h with ⟨hT, rfl⟩ | ⟨rfl, hb, u, h1, h2⟩ | ⟨rfl, hb, sv, us, h1, h2, h3⟩ | ⟨rfl, hb, sv, us, h1, h2, h3⟩ | ⟨rfl, hb, fv, pv, sv, us, rows, pf, pp, ps, h1, h2, h3, h4, h5, h6, h7, h8, rfl⟩
    · exact visit_leaf T b L xs w hT (by omega) hl
    · exact visit_neg d ih b L S p xs w u hS h1 h2 hx' hl
    · exact visit_op d ih b L S p xs w sv us hS h1 h2 h3 hx' hl
    · exact visit_call d ih b L S p xs w sv us hS h1 h2 h3 hx' hl
    · rcases h4 with ⟨rfl, hpf⟩ | h4
      · exact visit_path_nil d ih b L S pf pp ps xs us rows w pv sv hS hb h1 hpf h2 h3 h5 h6 h7 h8 hx' hl
      · obtain ⟨T0, v0, rfl⟩ : ∃ T0 v0, fv = .iface T0 v0 := by
          cases d with
          | zero => exact False.elim h4
          | succ d => obtain ⟨T0, b0, _, e, _⟩ := h4; exact ⟨T0, _, e⟩
        exact visit_path_some d ih b L S pf pp ps xs us rows w T0 v0 pv sv hS hb h1 h4 h2 h3 h5 h6 h7 h8 hx' hl
end Go.Proofs.Ybulkbucw
