/-
  LawS3532CPostOrder: THE WALK.
-/
import Derived.Test.YbulkbucwPathAt
import Derived.Test.YbulkbucwReg
import Derived.Deep.QuietTactic
import Derived.BigQuiet
import Derived.Deep.DeepCutAuto
import Derived.Deep.CutBlock
import Derived.Deep.RegionLaw
import Derived.Deep.DrawnRows
namespace Go.Proofs.Ybulkbucw
open Go.RowKit

/-- The script's bytes. -/
def Bytes (w : World) (a : Option Addr) (n : Nat) : Prop := ∀ i, i < n → ∃ b off x, a = some ⟨b, off, none⟩ ∧ w.cell? ⟨b, off + i, none⟩ = some (.int .u8 x) ∧ 0 ≤ x ∧ x ≤ 255
theorem leafI (j : Int) (n cap : Nat) (w : World) (a : Option Addr) (h0 : 0 ≤ j) (h1 : j ≤ 1000) (hm : n ≤ maxLen) (ht : Texts w a n) :
    Calls Yba.prog 11 #[.int .i64 j, .slice a n cap] w fun e w' => ∃ T o, (T = 77 ∨ T = 80 ∨ T = 84) ∧ e = .returned (.iface T (.pointer (some ⟨w.heap.size, 0, none⟩))) ∧ w' = w.alloc o := by
  obtain ⟨i, rfl⟩ := Int.eq_ofNat_of_zero_le h0
  exact leaf i n cap w a (by omega) hm ht
theorem Forest.one_cell {d : Nat} {w : World} {S : Nat → Prop} {us p : List Value} (h : Forest (Tree d w S) us p) : ∀ u ∈ us, u.oneCell' = true := fun u hu => by
  obtain ⟨T, b, rfl⟩ := h.shape u hu; rfl

set_option maxRecDepth 100000 in
set_option maxHeartbeats 0 in
theorem lawC (a0 : Option Addr) (n cap0 : Nat) (a1 : Option Addr) (n1 cap1 : Nat) (w : World) (hn : n ≤ 512) (hm : n1 ≤ maxLen) (hby : Bytes w a0 n) (htx : Texts w a1 n1) :
    Calls Yba.prog 5 #[.slice a0 n cap0, .slice a1 n1 cap1] w fun e w' => e = .returned (.bool true) ∧ Below w.heap.size w w' := by
  obtain ⟨i0, hi, hz0, hz1, hz2⟩ := info_parts Yba.info45
  have BY : Hid (Bytes w a0 n) := hby
  have TX : Hid (Texts w a1 n1) := htx
  have HM : Hid (n1 ≤ maxLen) := hm
  clear hby htx hm
  go_enter Yba.func5, Yba.ntmps5
  go_wp2_with fail
  go_loopw [5, 6, 28] (fun s c i wr => ∃ (k : Nat) (ss cs : List Value), k ≤ n ∧ i = .int .i64 k ∧ St w wr k s c ss cs) (fun _ _ i _ => n - (intOf i).toNat)
  case atStart => exact ⟨0, [], [], Nat.zero_le _, rfl, St.start w⟩
  case round =>
    obtain ⟨k, ss, cs, hk, rfl, hst⟩ := hrel
    have hk1 := hst.len
    have hk2 : ss.length ≤ cs.length := Forest.len hst.forest
    obtain ⟨sa, caps, e5, hsf⟩ := own_form hst.so
    obtain ⟨ac, capc, e6, hcf⟩ := own_form hst.co
    subst e5 e6
    have hss : ss.length ≤ 512 := by omega
    have hcs : cs.length ≤ 512 := by omega
    have ST : Hid (St w wr k (.slice sa ss.length caps) (.slice ac cs.length capc) ss cs) := hst
    have HSF : Hid (ss.length ≤ cs.length ∧ cs.length = k) := ⟨hk2, hk1⟩
    clear hst hk1 hk2 hsf hcf
    by_cases hlt : k < n
    · obtain ⟨b, off, x, rfl, hcx, hx0, hx1⟩ := BY.out k hlt
      have hcw : wr.cell? ⟨b, off + k, none⟩ = some (.int .u8 x) := by rw [ST.out.below.cell (p := ⟨b, off + k, none⟩) (World.block_lt_of_cell? w _ hcx)]; exact hcx
      have htx : Texts wr a1 n1 := fun i hi => by
        obtain ⟨b, off, s, h1, h2⟩ := TX.out i hi
        exact ⟨b, off, s, h1, by rw [ST.out.below.cell (p := ⟨b, off + i, none⟩) (World.block_lt_of_cell? w _ h2)]; exact h2⟩
      have TXR : Hid (Texts wr a1 n1) := htx
      clear hcx htx
      obtain ⟨m0, hm0⟩ : ∃ m0 : Nat, x / 6 % 4 = (m0 : Int) := ⟨(x / 6 % 4).toNat, by omega⟩
      have hm1 : m0 ≤ 3 := by omega
      go_upto_if 43 with (fail)
      go_cut [10] (fun t wx => ∃ m : Nat, t = .int .i64 m ∧ m ≤ ss.length ∧ m ≤ 3 ∧ wx = wr)
      case first =>
        as_aux_lemma =>
          by_cases hc : ss.length < m0
          · go_wp2_with fail
            go_meet
            case rel => exact ⟨ss.length, rfl, Nat.le_refl _, by omega, rfl⟩
          · go_wp2_with fail
            go_meet
            case rel => exact ⟨m0, by rw [hm0], by omega, hm1, rfl⟩
      case rest =>
        obtain ⟨m, rfl, hml, hm3, hwc⟩ := hcut
        replace hwc := hwc.symm
        subst hwc
        clear hm0 hm1
        go_upto_block 2 with (fail)
        clear hcw
        go_cut [5, 9, 10, 11] (fun s _ _ e wx => ∃ (ss2 : List Value) (T eb : Nat) (a2 : Option Addr) (cap2 : Nat), s = .slice a2 ss2.length cap2 ∧ e = .iface T (.pointer (some ⟨eb, 0, none⟩)) ∧ Mid w wx k (.slice a2 ss2.length cap2) (.slice ac cs.length capc) (.iface T (.pointer (some ⟨eb, 0, none⟩))) ss2 cs)
        case first =>
          by_cases s0 : x % 6 = 0
          · skip
            as_aux_lemma =>
              go_wp2_with fail
              refine (leafI _ n1 cap1 wr a1 (by omega) (by omega) HM.out TXR.out).mono ?_
              rintro e w1 ⟨T, o, hT, rfl, rfl⟩
              have M : Hid (Mid w (wr.alloc o) k (.slice sa ss.length caps) (.slice ac cs.length capc) (.iface T (.pointer (some ⟨wr.heap.size, 0, none⟩))) ss cs) :=
                St.mid (us := []) ST.out ((Below.refl _ _).alloc (Nat.le_refl _) _) (by simp) ST.out.so rfl (fun c2 hc2 => ⟨T, wr.heap.size, [], rfl, by rw [show c2 = [] from hc2], .inl ⟨hT, rfl⟩⟩)
              go_wp2_with fail
              go_meet
              case rel => exact ⟨ss, T, _, sa, caps, rfl, rfl, M.out⟩
          · have s0' : (x % 6 == 0) = false := by simpa using s0
            by_cases s1 : x % 6 = 1
            · skip
              as_aux_lemma =>
                go_wp2_with fail
                refine (leafI _ n1 cap1 wr a1 (by omega) (by omega) HM.out TXR.out).mono ?_
                rintro e w1 ⟨T, o, hT, rfl, rfl⟩
                have M : Hid (Mid w (wr.alloc o) k (.slice sa ss.length caps) (.slice ac cs.length capc) (.iface T (.pointer (some ⟨wr.heap.size, 0, none⟩))) ss cs) :=
                  St.mid (us := []) ST.out ((Below.refl _ _).alloc (Nat.le_refl _) _) (by simp) ST.out.so rfl (fun c2 hc2 => ⟨T, wr.heap.size, [], rfl, by rw [show c2 = [] from hc2], .inl ⟨hT, rfl⟩⟩)
                go_wp2_with fail
                go_meet
                case rel => exact ⟨ss, T, _, sa, caps, rfl, rfl, M.out⟩
            · have s1' : (x % 6 == 1) = false := by simpa using s1
              by_cases h0 : ss.length = 0
              · obtain rfl : ss = [] := List.eq_nil_of_length_eq_zero h0
                clear h0
                as_aux_lemma =>
                  go_wp2_with fail
                  refine (leafI _ n1 cap1 wr a1 (by omega) (by omega) HM.out TXR.out).mono ?_
                  rintro e w1 ⟨T, o, hT, rfl, rfl⟩
                  have M : Hid (Mid w (wr.alloc o) k (.slice sa ([] : List Value).length caps) (.slice ac cs.length capc) (.iface T (.pointer (some ⟨wr.heap.size, 0, none⟩))) [] cs) :=
                    St.mid (us := []) ST.out ((Below.refl _ _).alloc (Nat.le_refl _) _) (by simp) ST.out.so rfl (fun c2 hc2 => ⟨T, wr.heap.size, [], rfl, by rw [show c2 = [] from hc2], .inl ⟨hT, rfl⟩⟩)
                  go_wp2_with fail
                  go_meet
                  case rel => exact ⟨[], T, _, sa, caps, rfl, rfl, M.out⟩
              · have h0' : ((ss.length : Int) == 0) = false := by simpa using h0
                obtain ⟨g, rfl, hg1, hg2, hcap, hcell⟩ := St.arr ST.out rfl (by omega)
                by_cases s2 : x % 6 = 2
                · skip
                  as_aux_lemma =>
                    obtain ⟨ss1, u, hsu⟩ : ∃ ss1 u, ss = ss1 ++ [u] := by
                      rcases List.eq_nil_or_concat ss with e | ⟨l, b, e⟩
                      · rw [e] at h0; simp at h0
                      · exact ⟨l, b, by rw [e, List.concat_eq_append]⟩
                    have hl1 : ss.length = ss1.length + 1 := by rw [hsu]; simp
                    have ST1 : Hid (St w wr k (.slice (some ⟨g, 0, none⟩) (ss1.length + 1) caps) (.slice ac cs.length capc) (ss1 ++ [u]) cs) := by have := ST.out; rw [hl1, hsu] at this; exact this
                    have hcu := hcell ss1.length u (by rw [hsu]; simp)
                    rw [hl1] at h0' ⊢
                    obtain ⟨uT, ub, rfl⟩ := ST1.out.forest.shape u (by simp)
                    have hs1 : ss1.length ≤ 511 := by omega
                    have hcap1 : ss1.length + 1 ≤ caps := by omega
                    clear hl1 hsu hcell ST HSF hml h0 hss hcap
                    go_wp2_with fail
                    go_meet
                    case rel => exact ⟨ss1, 47, _, some ⟨g, 0, none⟩, caps, rfl, rfl, St.neg ST1.out⟩
                · have s2' : (x % 6 == 2) = false := by simpa using s2
                  by_cases s3 : x % 6 = 3
                  · by_cases hm1 : m < 1
                    · skip
                      as_aux_lemma =>
                        obtain ⟨ss1, u, hsu⟩ : ∃ ss1 u, ss = ss1 ++ [u] := by
                          rcases List.eq_nil_or_concat ss with e | ⟨l, b, e⟩
                          · rw [e] at h0; simp at h0
                          · exact ⟨l, b, by rw [e, List.concat_eq_append]⟩
                        have hl1 : ss.length = ss1.length + 1 := by rw [hsu]; simp
                        have ST1 : Hid (St w wr k (.slice (some ⟨g, 0, none⟩) (ss1.length + 1) caps) (.slice ac cs.length capc) (ss1 ++ [u]) cs) := by have := ST.out; rw [hl1, hsu] at this; exact this
                        have HN1 : Hid (∀ v ∈ [u], v.oneCell' = true) := fun v hv => ST1.out.forest.one_cell v (by simp at hv; simp [hv])
                        have HC : Hid (∀ (j : Nat) (v : Value), [u][j]? = some v → wr.cell? ((⟨g, ss1.length, none⟩ : Addr).add j) = some v) := fun j v hj => by
                          rw [Addr.add_lit]
                          exact hcell _ v (by rw [hsu, List.getElem?_append_right (by omega)]; simpa using hj)
                        have hs1 : ss1.length ≤ 511 := by omega
                        have hcap1 : ss1.length + 1 ≤ caps := by omega
                        have hcn : ¬ caps = ss1.length := by omega
                        rw [hl1] at h0' ⊢
                        clear hl1 hsu hcell ST HSF hml h0 hss hcap
                        go_wp2_with (at_builtin; refine wpList_append_own _ rfl _ _ 43 rfl wr.heap.size 45 i0 .nilIface 1 16 Yba.underlying43 hi hz0 hz1 hz2 rfl (by decide) _ _ _ rfl (World.ownsRow_nil wr wr.heap.size 45 1) ⟨g, ss1.length, none⟩ 1 _ [u] rfl ?qc1 ?qc2 ?qc3 ?qc4 ?qc5 ?qc6 ?_)
                        case qc1 => simp
                        case qc2 => exact HC.out
                        case qc3 => exact HN1.out
                        case qc4 => unfold maxLen; omega
                        case qc5 => omega
                        case qc6 => exact Nat.le_refl _
                        intro iv w1 hown hgrow hnil
                        clear hnil
                        have HI0 : w1.ownsRow wr.heap.size 45 1 iv 1 [u] := by simpa using hown
                        obtain ⟨ia, capi, e1, hia⟩ := own_form HI0
                        subst e1
                        have HI : Hid (w1.ownsRow wr.heap.size 45 1 (.slice ia 1 capi) 1 [u]) := HI0
                        have HB : Hid (Below wr.heap.size wr w1) := below_of_grown hgrow
                        have HIA : Hid ((ia = none ∧ 1 = 0 ∧ capi = 0) ∨ ∃ g, ia = some ⟨g, 0, none⟩ ∧ wr.heap.size ≤ g ∧ g < w1.heap.size) := hia
                        clear hown hgrow HI0 hia
                        go_wp2_with fail
                        go_meet
                        case rel => exact ⟨ss1, 50, _, some ⟨g, 0, none⟩, caps, rfl, rfl, St.many (T := 50) (c := 0) (us := [u]) ST1.out HB.out HI.out rfl (by decide)⟩
                    · skip
                      as_aux_lemma =>
                        obtain ⟨ss1, us, hsu, hum⟩ : ∃ ss1 us : List Value, ss = ss1 ++ us ∧ us.length = m := ⟨ss.take (ss.length - m), ss.drop (ss.length - m), (List.take_append_drop _ _).symm, by simp; omega⟩
                        subst hum
                        have hl1 : ss.length = ss1.length + us.length := by rw [hsu]; simp
                        have ST1 : Hid (St w wr k (.slice (some ⟨g, 0, none⟩) (ss1.length + us.length) caps) (.slice ac cs.length capc) (ss1 ++ us) cs) := by have := ST.out; rw [hl1, hsu] at this; exact this
                        have HN1 : Hid (∀ u ∈ us, u.oneCell' = true) := fun u hu => ST1.out.forest.one_cell u (by simp [hu])
                        have HC : Hid (∀ (j : Nat) (u : Value), us[j]? = some u → wr.cell? ((⟨g, ss1.length, none⟩ : Addr).add j) = some u) := fun j u hj => by
                          rw [Addr.add_lit]
                          exact hcell _ u (by rw [hsu, List.getElem?_append_right (by omega)]; simpa using hj)
                        have hs1 : ss1.length ≤ 512 := by omega
                        have hcap1 : ss1.length + us.length ≤ caps := by omega
                        have hcn : ¬ caps = ss1.length := by omega
                        rw [hl1] at h0' ⊢
                        clear hl1 hsu hcell ST HSF hml h0 hss hcap
                        go_wp2_with (at_builtin; refine wpList_append_own _ rfl _ _ 43 rfl wr.heap.size 45 i0 .nilIface 1 16 Yba.underlying43 hi hz0 hz1 hz2 rfl (by decide) _ _ _ rfl (World.ownsRow_nil wr wr.heap.size 45 1) ⟨g, ss1.length, none⟩ us.length _ us rfl ?qc1 ?qc2 ?qc3 ?qc4 ?qc5 ?qc6 ?_)
                        case qc1 => simp
                        case qc2 => exact HC.out
                        case qc3 => exact HN1.out
                        case qc4 => unfold maxLen; omega
                        case qc5 => omega
                        case qc6 => exact Nat.le_refl _
                        intro iv w1 hown hgrow hnil
                        clear hnil
                        have HI0 : w1.ownsRow wr.heap.size 45 1 iv us.length us := by simpa using hown
                        obtain ⟨ia, capi, e1, hia⟩ := own_form HI0
                        subst e1
                        have HI : Hid (w1.ownsRow wr.heap.size 45 1 (.slice ia us.length capi) us.length us) := HI0
                        have HB : Hid (Below wr.heap.size wr w1) := below_of_grown hgrow
                        have HIA : Hid ((ia = none ∧ us.length = 0 ∧ capi = 0) ∨ ∃ g, ia = some ⟨g, 0, none⟩ ∧ wr.heap.size ≤ g ∧ g < w1.heap.size) := hia
                        clear hown hgrow HI0 hia
                        go_wp2_with fail
                        go_meet
                        case rel => exact ⟨ss1, 50, _, some ⟨g, 0, none⟩, caps, rfl, rfl, St.many (T := 50) (c := 0) (us := us) ST1.out HB.out HI.out rfl (by decide)⟩
                  · have s3' : (x % 6 == 3) = false := by simpa using s3
                    by_cases s4 : x % 6 = 4
                    · by_cases hm1 : m = 0
                      · subst hm1
                        by_cases hcn : caps = ss.length
                        · skip
                          as_aux_lemma =>
                            subst hcn
                            have ST1 : Hid (St w wr k (.slice (some ⟨g, 0, none⟩) (ss.length + ([] : List Value).length) ss.length) (.slice ac cs.length capc) (ss ++ []) cs) := by have := ST.out; rw [List.append_nil]; exact this
                            have HN1 : Hid (∀ v ∈ ([] : List Value), v.oneCell' = true) := fun v hv => by cases hv
                            have HC : Hid (∀ (j : Nat) (v : Value), ([] : List Value)[j]? = some v → wr.cell? ((⟨g, 0, none⟩ : Addr).add j) = some v) := fun j v hj => by simp at hj
                            clear hcell ST HSF hml h0
                            go_wp2_with (at_builtin; refine wpList_append_own _ rfl _ _ 43 rfl wr.heap.size 45 i0 .nilIface 1 16 Yba.underlying43 hi hz0 hz1 hz2 rfl (by decide) _ _ _ rfl (World.ownsRow_nil wr wr.heap.size 45 1) ⟨g, 0, none⟩ 0 _ [] rfl ?qc1 ?qc2 ?qc3 ?qc4 ?qc5 ?qc6 ?_)
                            case qc1 => simp
                            case qc2 => exact HC.out
                            case qc3 => exact HN1.out
                            case qc4 => unfold maxLen; omega
                            case qc5 => omega
                            case qc6 => exact Nat.le_refl _
                            intro iv w1 hown hgrow hnil
                            clear hnil
                            have HI0 : w1.ownsRow wr.heap.size 45 1 iv 0 [] := by simpa using hown
                            obtain ⟨ia, capi, e1, hia⟩ := own_form HI0
                            subst e1
                            have HI : Hid (w1.ownsRow wr.heap.size 45 1 (.slice ia 0 capi) 0 []) := HI0
                            have HB : Hid (Below wr.heap.size wr w1) := below_of_grown hgrow
                            have HIA : Hid ((ia = none ∧ 0 = 0 ∧ capi = 0) ∨ ∃ g, ia = some ⟨g, 0, none⟩ ∧ wr.heap.size ≤ g ∧ g < w1.heap.size) := hia
                            clear hown hgrow HI0 hia
                            go_wp2_with fail
                            go_meet
                            case rel => exact ⟨ss, 53, _, some ⟨g, 0, none⟩, ss.length, rfl, rfl, St.many (T := 53) (c := 2) (us := []) ST1.out HB.out HI.out rfl (by decide)⟩
                        · skip
                          as_aux_lemma =>
                            have ST1 : Hid (St w wr k (.slice (some ⟨g, 0, none⟩) (ss.length + ([] : List Value).length) caps) (.slice ac cs.length capc) (ss ++ []) cs) := by have := ST.out; rw [List.append_nil]; exact this
                            have HN1 : Hid (∀ v ∈ ([] : List Value), v.oneCell' = true) := fun v hv => by cases hv
                            have HC : Hid (∀ (j : Nat) (v : Value), ([] : List Value)[j]? = some v → wr.cell? ((⟨g, ss.length, none⟩ : Addr).add j) = some v) := fun j v hj => by simp at hj
                            clear hcell ST HSF hml h0
                            go_wp2_with (at_builtin; refine wpList_append_own _ rfl _ _ 43 rfl wr.heap.size 45 i0 .nilIface 1 16 Yba.underlying43 hi hz0 hz1 hz2 rfl (by decide) _ _ _ rfl (World.ownsRow_nil wr wr.heap.size 45 1) ⟨g, ss.length, none⟩ 0 _ [] rfl ?qc1 ?qc2 ?qc3 ?qc4 ?qc5 ?qc6 ?_)
                            case qc1 => simp
                            case qc2 => exact HC.out
                            case qc3 => exact HN1.out
                            case qc4 => unfold maxLen; omega
                            case qc5 => omega
                            case qc6 => exact Nat.le_refl _
                            intro iv w1 hown hgrow hnil
                            clear hnil
                            have HI0 : w1.ownsRow wr.heap.size 45 1 iv 0 [] := by simpa using hown
                            obtain ⟨ia, capi, e1, hia⟩ := own_form HI0
                            subst e1
                            have HI : Hid (w1.ownsRow wr.heap.size 45 1 (.slice ia 0 capi) 0 []) := HI0
                            have HB : Hid (Below wr.heap.size wr w1) := below_of_grown hgrow
                            have HIA : Hid ((ia = none ∧ 0 = 0 ∧ capi = 0) ∨ ∃ g, ia = some ⟨g, 0, none⟩ ∧ wr.heap.size ≤ g ∧ g < w1.heap.size) := hia
                            clear hown hgrow HI0 hia
                            go_wp2_with fail
                            go_meet
                            case rel => exact ⟨ss, 53, _, some ⟨g, 0, none⟩, caps, rfl, rfl, St.many (T := 53) (c := 2) (us := []) ST1.out HB.out HI.out rfl (by decide)⟩
                      · skip
                        as_aux_lemma =>
                          obtain ⟨ss1, us, hsu, hum⟩ : ∃ ss1 us : List Value, ss = ss1 ++ us ∧ us.length = m := ⟨ss.take (ss.length - m), ss.drop (ss.length - m), (List.take_append_drop _ _).symm, by simp; omega⟩
                          subst hum
                          have hl1 : ss.length = ss1.length + us.length := by rw [hsu]; simp
                          have ST1 : Hid (St w wr k (.slice (some ⟨g, 0, none⟩) (ss1.length + us.length) caps) (.slice ac cs.length capc) (ss1 ++ us) cs) := by have := ST.out; rw [hl1, hsu] at this; exact this
                          have HN1 : Hid (∀ u ∈ us, u.oneCell' = true) := fun u hu => ST1.out.forest.one_cell u (by simp [hu])
                          have HC : Hid (∀ (j : Nat) (u : Value), us[j]? = some u → wr.cell? ((⟨g, ss1.length, none⟩ : Addr).add j) = some u) := fun j u hj => by
                            rw [Addr.add_lit]
                            exact hcell _ u (by rw [hsu, List.getElem?_append_right (by omega)]; simpa using hj)
                          have hs1 : ss1.length ≤ 512 := by omega
                          have hcap1 : ss1.length + us.length ≤ caps := by omega
                          have hcn : ¬ caps = ss1.length := by omega
                          rw [hl1] at h0' ⊢
                          clear hl1 hsu hcell ST HSF hml h0 hss hcap
                          go_wp2_with (at_builtin; refine wpList_append_own _ rfl _ _ 43 rfl wr.heap.size 45 i0 .nilIface 1 16 Yba.underlying43 hi hz0 hz1 hz2 rfl (by decide) _ _ _ rfl (World.ownsRow_nil wr wr.heap.size 45 1) ⟨g, ss1.length, none⟩ us.length _ us rfl ?qc1 ?qc2 ?qc3 ?qc4 ?qc5 ?qc6 ?_)
                          case qc1 => simp
                          case qc2 => exact HC.out
                          case qc3 => exact HN1.out
                          case qc4 => unfold maxLen; omega
                          case qc5 => omega
                          case qc6 => exact Nat.le_refl _
                          intro iv w1 hown hgrow hnil
                          clear hnil
                          have HI0 : w1.ownsRow wr.heap.size 45 1 iv us.length us := by simpa using hown
                          obtain ⟨ia, capi, e1, hia⟩ := own_form HI0
                          subst e1
                          have HI : Hid (w1.ownsRow wr.heap.size 45 1 (.slice ia us.length capi) us.length us) := HI0
                          have HB : Hid (Below wr.heap.size wr w1) := below_of_grown hgrow
                          have HIA : Hid ((ia = none ∧ us.length = 0 ∧ capi = 0) ∨ ∃ g, ia = some ⟨g, 0, none⟩ ∧ wr.heap.size ≤ g ∧ g < w1.heap.size) := hia
                          clear hown hgrow HI0 hia
                          go_wp2_with fail
                          go_meet
                          case rel => exact ⟨ss1, 53, _, some ⟨g, 0, none⟩, caps, rfl, rfl, St.many (T := 53) (c := 2) (us := us) ST1.out HB.out HI.out rfl (by decide)⟩
                    · have s4' : (x % 6 == 4) = false := by simpa using s4
                      clear s0 s1 s2 s3 s4
                      as_aux_lemma =>
                        obtain ⟨i6, hi6, hy0, hy1, hy2⟩ := info_parts Yba.info64
                        obtain ⟨wR, hwR⟩ : ∃ x, x = wr := ⟨_, rfl⟩
                        subst hwR
                        obtain ⟨ss1, us, hsu, hum⟩ : ∃ ss1 us : List Value, ss = ss1 ++ us ∧ us.length = m := ⟨ss.take (ss.length - m), ss.drop (ss.length - m), (List.take_append_drop _ _).symm, by simp; omega⟩
                        subst hum
                        have hl1 : ss.length = ss1.length + us.length := by rw [hsu]; simp
                        have ST1 : Hid (St w wR k (.slice (some ⟨g, 0, none⟩) (ss1.length + us.length) caps) (.slice ac cs.length capc) (ss1 ++ us) cs) := by have := ST.out; rw [hl1, hsu] at this; exact this
                        have HN0 : Hid (∀ u ∈ us, ∃ T b, u = .iface T (.pointer (some ⟨b, 0, none⟩))) := fun u hu => ST1.out.forest.shape u (by simp [hu])
                        have HC0 : Hid (∀ (j : Nat) (u : Value), us[j]? = some u → wR.cell? ((⟨g, ss1.length, none⟩ : Addr).add j) = some u) := fun j u hj => by
                          rw [Addr.add_lit]
                          exact hcell _ u (by rw [hsu, List.getElem?_append_right (by omega)]; simpa using hj)
                        have hs1 : ss1.length ≤ 512 := by omega
                        have hcap1 : ss1.length + us.length ≤ caps := by omega
                        have h0'' : ((ss1.length : Int) + (us.length : Int) == 0) = false := by rw [beq_eq_false_iff_ne]; omega
                        rw [hl1]
                        clear hl1 hsu hcell ST HSF hml h0 h0' hss hcap
                        go_upto_region 13 with (fail)
                        go_cut [14] (fun t wx => ∃ (ia : Option Addr) (capi : Nat), t = .slice ia us.length capi ∧ wx.ownsRow wR.heap.size 45 1 (.slice ia us.length capi) us.length us ∧ Below wR.heap.size wR wx)
                        case first =>
                          as_aux_lemma =>
                            by_cases hcn : caps = ss1.length
                            · obtain rfl : us = [] := List.eq_nil_of_length_eq_zero (by omega)
                              subst hcn
                              have HN1 : Hid (∀ v ∈ ([] : List Value), v.oneCell' = true) := fun v hv => by cases hv
                              have HC : Hid (∀ (j : Nat) (v : Value), ([] : List Value)[j]? = some v → wR.cell? ((⟨g, 0, none⟩ : Addr).add j) = some v) := fun j v hj => by simp at hj
                              go_wp2_with (at_builtin; refine wpList_append_own _ rfl _ _ 43 rfl wR.heap.size 45 i0 .nilIface 1 16 Yba.underlying43 hi hz0 hz1 hz2 rfl (by decide) _ _ _ rfl (World.ownsRow_nil wR wR.heap.size 45 1) ⟨g, 0, none⟩ 0 _ [] rfl ?qc1 ?qc2 ?qc3 ?qc4 ?qc5 ?qc6 ?_)
                              case qc1 => simp
                              case qc2 => exact HC.out
                              case qc3 => exact HN1.out
                              case qc4 => unfold maxLen; omega
                              case qc5 => omega
                              case qc6 => exact Nat.le_refl _
                              intro iv w1 hown hgrow hnil
                              clear hnil
                              have HI0 : w1.ownsRow wR.heap.size 45 1 iv 0 [] := by simpa using hown
                              obtain ⟨ia, capi, e1, hia⟩ := own_form HI0
                              subst e1
                              have HI : Hid (w1.ownsRow wR.heap.size 45 1 (.slice ia 0 capi) 0 []) := HI0
                              have HB : Hid (Below wR.heap.size wR w1) := below_of_grown hgrow
                              have HIA : Hid ((ia = none ∧ 0 = 0 ∧ capi = 0) ∨ ∃ g, ia = some ⟨g, 0, none⟩ ∧ wR.heap.size ≤ g ∧ g < w1.heap.size) := hia
                              clear hown hgrow HI0 hia
                              go_wp2_with fail
                              go_meet
                              case rel => exact ⟨ia, capi, rfl, HI.out, HB.out⟩
                            · have HN1 : Hid (∀ u ∈ us, u.oneCell' = true) := fun u hu => by obtain ⟨T, b, rfl⟩ := HN0.out u hu; rfl
                              have HC : Hid (∀ (j : Nat) (u : Value), us[j]? = some u → wR.cell? ((⟨g, ss1.length, none⟩ : Addr).add j) = some u) := HC0.out
                              go_wp2_with (at_builtin; refine wpList_append_own _ rfl _ _ 43 rfl wR.heap.size 45 i0 .nilIface 1 16 Yba.underlying43 hi hz0 hz1 hz2 rfl (by decide) _ _ _ rfl (World.ownsRow_nil wR wR.heap.size 45 1) ⟨g, ss1.length, none⟩ us.length _ us rfl ?qc1 ?qc2 ?qc3 ?qc4 ?qc5 ?qc6 ?_)
                              case qc1 => simp
                              case qc2 => exact HC.out
                              case qc3 => exact HN1.out
                              case qc4 => unfold maxLen; omega
                              case qc5 => omega
                              case qc6 => exact Nat.le_refl _
                              intro iv w1 hown hgrow hnil
                              clear hnil
                              have HI0 : w1.ownsRow wR.heap.size 45 1 iv us.length us := by simpa using hown
                              obtain ⟨ia, capi, e1, hia⟩ := own_form HI0
                              subst e1
                              have HI : Hid (w1.ownsRow wR.heap.size 45 1 (.slice ia us.length capi) us.length us) := HI0
                              have HB : Hid (Below wR.heap.size wR w1) := below_of_grown hgrow
                              have HIA : Hid ((ia = none ∧ us.length = 0 ∧ capi = 0) ∨ ∃ g, ia = some ⟨g, 0, none⟩ ∧ wR.heap.size ≤ g ∧ g < w1.heap.size) := hia
                              clear hown hgrow HI0 hia
                              go_wp2_with fail
                              go_meet
                              case rel => exact ⟨ia, capi, rfl, HI.out, HB.out⟩
                        case rest =>
                          as_aux_lemma =>
                            obtain ⟨ia, capi, rfl, hI, hB⟩ := hcut
                            obtain ⟨w1, hw1⟩ : ∃ x, x = wc := ⟨_, rfl⟩
                            subst hw1
                            have hci := own_cap hI
                            have hia := own_form hI
                            obtain ⟨ia', capi', e1, hia⟩ := hia
                            cases e1
                            have HIA : Hid ((ia = none ∧ us.length = 0 ∧ capi = 0) ∨ ∃ g, ia = some ⟨g, 0, none⟩ ∧ wR.heap.size ≤ g ∧ g < w1.heap.size) := hia
                            have P00 := fun v2 v4 => PathAt.start hI hB v2 v4
                            have HP00 : Hid (∀ v2 v4 : Value, PathAt wR (w1.alloc (.cells #[.nilIface, .slice none 0 0, v2, .slice none 0 0, v4] 59)) w1.heap.size (.slice ia us.length capi) us .nilIface (.slice none 0 0) [] (.slice none 0 0) [] []) := P00
                            clear hI hB P00 hia HC0
                            go_upto_region 17 with (fail)
                            have P0 : Hid (PathAt wR (w1.alloc (.cells #[.nilIface, .slice none 0 0, .bool false, .slice none 0 0, .int .i64 0] 59)) w1.heap.size (.slice ia us.length capi) us .nilIface (.slice none 0 0) [] (.slice none 0 0) [] []) := HP00.out _ _
                            clear HP00
                            generalize w1.alloc (.cells #[.nilIface, .slice none 0 0, .bool false, .slice none 0 0, .int .i64 0] 59) = w2 at P0 ⊢
                            generalize w1.heap.size = pb at P0 HIA ⊢
                            go_cut [70] (fun t wx => ∃ B : Bool, t = .bool B ∧ (B = true → 0 < us.length) ∧ wx = w2)
                            case first =>
                              as_aux_lemma =>
                                go_wp2_with fail
                                all_goals
                                  go_meet
                                  case rel => exact ⟨_, rfl, by first | simp | (simp; omega), rfl⟩
                            case rest =>
                              as_aux_lemma =>
                                obtain ⟨B, rfl, hBt, hwc⟩ := hcut
                                replace hwc := hwc.symm
                                subst hwc
                                go_upto_if 70 with (fail)
                                go_cut [16] (fun t wx => ∃ (j : Nat) (fv : Value), t = .int .i64 j ∧ j ≤ us.length ∧ ((j = 0 ∧ fv = .nilIface) ∨ (j = 1 ∧ us[0]? = some fv)) ∧ PathAt wR wx pb (.slice ia us.length capi) us fv (.slice none 0 0) [] (.slice none 0 0) [] [])
                                case first =>
                                  as_aux_lemma =>
                                    cases B
                                    · go_wp2_with fail
                                      go_meet
                                      case rel => exact ⟨0, .nilIface, rfl, Nat.zero_le _, .inl ⟨rfl, rfl⟩, P0.out⟩
                                    · have hpos := hBt rfl
                                      obtain ⟨u0, hu0⟩ : ∃ u, us[0]? = some u := ⟨us[0], List.getElem?_eq_getElem hpos⟩
                                      obtain ⟨uT, ub, rfl⟩ := HN0.out u0 (List.mem_of_getElem? hu0)
                                      rcases HIA.out with ⟨_, h1, _⟩ | ⟨gi, rfl, hg1, hg2⟩
                                      · omega
                                      · have hci0 : w2.cell? ⟨gi, 0, none⟩ = some (.iface uT (.pointer (some ⟨ub, 0, none⟩))) := by
                                          have := P0.out.items.cells (g := gi) rfl 0 _ hu0
                                          rw [Addr.add_lit] at this
                                          simpa using this
                                        have q0 := P0.out.c0
                                        have q1 := P0.out.z0
                                        have q2 := P0.out.b2
                                        have HU0 : Hid (us[0]? = some (.iface uT (.pointer (some ⟨ub, 0, none⟩)))) := hu0
                                        clear hu0
                                        go_wp2_with fail
                                        go_meet
                                        case rel => exact ⟨1, _, rfl, by omega, .inr ⟨rfl, HU0.out⟩, P0.out.set0⟩
                                case rest =>
                                  as_aux_lemma =>
                                    obtain ⟨j, fv, rfl, hj, hfv, hP⟩ := hcut
                                    obtain ⟨w3, hw3⟩ : ∃ x, x = wc := ⟨_, rfl⟩
                                    subst hw3
                                    have P1 : Hid (PathAt wR w3 pb (.slice ia us.length capi) us fv (.slice none 0 0) [] (.slice none 0 0) [] []) := hP
                                    have HFV : Hid ((j = 0 ∧ fv = .nilIface) ∨ (j = 1 ∧ us[0]? = some fv)) := hfv
                                    obtain ⟨hf, hhf⟩ : ∃ hf : Nat, ((us.length : Int) - (j : Int)) / 2 = (hf : Int) := ⟨(((us.length : Int) - (j : Int)) / 2).toNat, by omega⟩
                                    have hjf : j + hf ≤ us.length := by omega
                                    clear hP hfv P0 hBt
                                    go_upto_region 21 with (fail)
                                    go_cut [17] (fun t wx => ∃ pv, t = .int .i64 hf ∧ PathAt wR wx pb (.slice ia us.length capi) us fv pv ((us.drop j).take hf) (.slice none 0 0) [] [])
                                    case first =>
                                      as_aux_lemma =>
                                        have q0 := P1.out.c1
                                        have q1 := P1.out.z1
                                        have q2 := P1.out.b2
                                        rcases HIA.out with ⟨rfl, hu, hc⟩ | ⟨gi, rfl, hg1, hg2⟩
                                        · obtain rfl : us = [] := List.eq_nil_of_length_eq_zero hu
                                          obtain rfl : j = 0 := by simp at hj; exact hj
                                          obtain rfl : hf = 0 := by simp at hjf; exact hjf
                                          subst hc
                                          clear HIA hu
                                          go_wp2_with fail
                                          go_meet
                                          case rel => exact ⟨_, rfl, P1.out.set1 ⟨none, 0, rfl, fun i u hi => by simp at hi⟩⟩
                                        · by_cases hcj : capi = j
                                          · obtain rfl : hf = 0 := by omega
                                            subst hcj
                                            clear HIA
                                            go_wp2_with fail
                                            go_meet
                                            case rel => exact ⟨_, by rw [hhf], P1.out.set1 ⟨_, _, rfl, fun i u hi => by simp at hi⟩⟩
                                          · clear HIA
                                            go_wp2_with fail
                                            go_meet
                                            case rel => exact ⟨_, by rw [hhf], P1.out.set1 (pred_slice P1.out.items hg1 hg2 hjf)⟩
                                    case rest =>
                                      as_aux_lemma =>
                                        obtain ⟨pv, rfl, hP⟩ := hcut
                                        obtain ⟨w4, hw4⟩ : ∃ x, x = wc := ⟨_, rfl⟩
                                        subst hw4
                                        have P2 : Hid (PathAt wR w4 pb (.slice ia us.length capi) us fv pv ((us.drop j).take hf) (.slice none 0 0) [] []) := hP
                                        have q0 := hP.c3
                                        have q1 := hP.z3
                                        have q2 := hP.b2
                                        clear hP P1 hhf
                                        go_upto_region 23 with (fail)
                                        go_wp2_with (first | (refine wpList_build0 rfl rfl ?_) | (refine wpList_row1 rfl _ rfl _ _ _ _ _ _ _ _ rfl ?_) | (at_builtin; refine wpList_append_lies _ rfl _ _ 57 rfl (pb + 1) 64 i6 (.agg #[.string ⟨#[]⟩, .string ⟨#[]⟩, .string ⟨#[]⟩, .string ⟨#[]⟩, .string ⟨#[]⟩, .slice none 0 0, .int .i64 0, .int .i64 0]) 8 120 Yba.underlying57 hi6 hy0 hy1 hy2 rfl (by decide) _ _ _ rfl (P2.out.st.1.alloc _) ⟨w4.heap.size, 0, none⟩ 1 1 [.string ⟨#[]⟩, .string ⟨#[]⟩, .string ⟨#[]⟩, .string ⟨#[]⟩, .string ⟨#[]⟩, .slice none 0 0, .int .i64 0, .int .i64 0] rfl rfl ?qc2 ?qc3 (by decide) ?qc4 ?qc5 ?qc6 (w4.heap.size + 1) ?qcH ?_))
                                        case qc2 => exact fun j u hu => World.news_of_block (heap_alloc_new _ _) j u hu
                                        case qc3 => intro u hu; simp at hu; rcases hu with rfl | rfl | rfl <;> rfl
                                        case qc4 => unfold maxLen; simp
                                        case qc5 => simp
                                        case qc6 => simp; omega
                                        case qcH => simp
                                        intro g5 cap5 w5 hown hgrow hat hl5
                                        obtain ⟨e3, f3, hP⟩ := P2.out.step (us' := []) (pvi := .slice none 0 0) ((Below.refl _ _).alloc (Nat.le_refl _) _) ⟨none, 0, rfl, fun i u hi => by simp at hi⟩ rfl hown hgrow (by simpa using hat)
                                        have P3 : Hid (PathAt wR (w5.setCell ⟨pb, 3, none⟩ (.slice (some ⟨g5, 0, none⟩) 1 cap5)) pb (.slice ia us.length capi) us fv pv ((us.drop j).take hf) (.slice (some ⟨g5, 0, none⟩) 1 cap5) [[]] ([] ++ [.string ⟨#[]⟩, .string ⟨#[]⟩, .string ⟨#[]⟩, .string ⟨#[]⟩, .string ⟨#[]⟩, .slice none 0 0, .int .i64 0, .int .i64 0])) := hP
                                        clear hP hown hgrow hat hl5 P2 q0 q1
                                        go_wp2_with fail
                                        clear e3 f3 q2
                                        go_loopw [16] (fun t wx => ∃ (j2 : Nat) (a : Option Addr) (cap : Nat) (rows : List (List Value)) (xs : List Value), t = .int .i64 j2 ∧ j + hf ≤ j2 ∧ j2 ≤ us.length ∧ rows.length = 1 + (j2 - (j + hf)) ∧ rows.flatten = (us.drop (j + hf)).take (j2 - (j + hf)) ∧ PathAt wR wx pb (.slice ia us.length capi) us fv pv ((us.drop j).take hf) (.slice a rows.length cap) rows xs) (fun t _ => us.length - (intOf t).toNat)
                                        case atStart => exact ⟨j + hf, _, cap5, [[]], _, by go_num, Nat.le_refl _, hjf, by simp, by simp, P3.out⟩
                                        case round =>
                                          as_aux_lemma =>
                                            clear P3
                                            obtain ⟨wx, hwx⟩ : ∃ x, x = wr := ⟨_, rfl⟩
                                            subst hwx
                                            obtain ⟨j2, sta, stcap, rows, xs, rfl, hj1, hj2, hrl, hrf, hP⟩ := hrel
                                            have HR : Hid (rows.flatten = (us.drop (j + hf)).take (j2 - (j + hf))) := hrf
                                            have HRL : Hid (rows.length = 1 + (j2 - (j + hf))) := hrl
                                            have hr9 : rows.length ≤ 10 := by omega
                                            have PX : Hid (PathAt wR wx pb (.slice ia us.length capi) us fv pv ((us.drop j).take hf) (.slice sta rows.length stcap) rows xs) := hP
                                            clear hrf hrl hP
                                            by_cases hlt2 : j2 < us.length
                                            · obtain ⟨u, hu⟩ : ∃ u, us[j2]? = some u := ⟨us[j2], List.getElem?_eq_getElem hlt2⟩
                                              obtain ⟨uT, ub, rfl⟩ := HN0.out u (List.mem_of_getElem? hu)
                                              rcases HIA.out with ⟨_, h1, _⟩ | ⟨gi, rfl, hg1, hg2⟩
                                              · omega
                                              · have hci2 : wx.cell? ⟨gi, j2, none⟩ = some (.iface uT (.pointer (some ⟨ub, 0, none⟩))) := by
                                                  have := PX.out.items.cells (g := gi) rfl j2 _ hu
                                                  rw [Addr.add_lit] at this
                                                  simpa using this
                                                have q0 := PX.out.c3
                                                have q1 := PX.out.z3
                                                have q2 := PX.out.b2
                                                have q3 : gi < wx.heap.size := World.block_lt_of_cell? wx _ hci2
                                                have HU : Hid (us[j2]? = some (.iface uT (.pointer (some ⟨ub, 0, none⟩)))) := hu
                                                clear hu HIA
                                                have i1 : (0 : Int) ≤ (j2 : Int) := Int.natCast_nonneg _
                                                have i2 : (j2 : Int) < (us.length : Int) := by omega
                                                have m1 : Hid (rows.length + 1 ≤ maxLen) := by unfold Hid; unfold maxLen; omega
                                                have m2 : Hid ((rows.length + 1) * 120 ≤ 140737488355328) := by unfold Hid; omega
                                                go_upto_region 25 with (fail)
                                                refine region25 _ _ (fun _ _ _ _ _ h => h) _ rfl wx pb gi us.length capi j2 rows.length stcap uT ub sta rfl rfl rfl i1 i2 q0 hci2 xs (next_own PX.out _ _) q2 m1.out m2.out ?_
                                                intro g5 cap5 w5 hgrow hown hat
                                                obtain ⟨e3, f3, hP0⟩ := PX.out.next hown hgrow hat
                                                have P4 : Hid (PathAt _ _ _ _ _ _ _ _ _ _ _) := hP0
                                                refine ⟨e3, f3, ?_⟩
                                                clear hown hgrow hat hP0 e3 f3 PX q0 q1 q2 q3 hci2
                                                simp only [Act.put, List.setIfInBounds_toArray, List.set_cons_zero, List.set_cons_succ]
                                                go_wp2_with fail
                                                go_roundw
                                                case rel => exact ⟨j2 + 1, _, cap5, _, _, by go_num, by omega, by omega, by have := HRL.out; rw [List.length_append, List.length_singleton]; omega, rows_next HR.out (by omega) HU.out, by rw [List.length_append, List.length_singleton]; exact P4.out⟩
                                                case measure => simp [intOf]; omega
                                            · have HRA : Hid (rows.flatten = us.drop (j + hf)) := rows_all HR.out (by omega)
                                              go_wp2_with fail
                                              go_meet
                                              case rel => exact ⟨ss1, 56, pb, some ⟨g, 0, none⟩, caps, rfl, rfl, St.path ST1.out PX.out HFV.out HRA.out (by omega) ⟨_, _, rfl⟩⟩
        case rest =>
          obtain ⟨ss2, T, eb, a2, cap2, rfl, rfl, hM⟩ := hcut
          have M : Hid (Mid w wc k (.slice a2 ss2.length cap2) (.slice ac cs.length capc) (.iface T (.pointer (some ⟨eb, 0, none⟩))) ss2 cs) := hM
          have hs2 : ss2.length ≤ 600 := by
            have h1 := Forest.len hM.forest
            simp at h1
            omega
          clear hM ST HSF TXR
          as_aux_lemma =>
            go_wp2_with (at_builtin; refine wpList_append_lies _ rfl _ _ 43 rfl w.heap.size 45 i0 .nilIface 1 16 Yba.underlying43 hi hz0 hz1 hz2 rfl (by decide) _ _ _ rfl (M.out.so.alloc _) ⟨wc.heap.size, 0, none⟩ 1 1 [.iface T (.pointer (some ⟨eb, 0, none⟩))] rfl rfl ?qc2 ?qc3 (by decide) ?qc4 ?qc5 ?qc6 (wc.heap.size + 1) ?qcH ?_)
            case qc2 => exact cell_one_new _ _ _
            case qc3 => intro u hu; simp at hu; subst hu; rfl
            case qc4 => unfold maxLen; omega
            case qc5 => omega
            case qc6 => have := M.out.below.size; simp; omega
            case qcH => simp
            intro g4 cap4 w4 hown hgrow hat hl4
            have M2 : Hid (Mid2 w w4 k (.slice (some ⟨g4, 0, none⟩) (ss2.length + 1) cap4) (.slice ac cs.length capc) (.iface T (.pointer (some ⟨eb, 0, none⟩))) ss2 cs) := M.out.push hown hgrow hat
            clear hown hgrow hat hl4 M
            go_wp2_with (at_builtin; refine wpList_append_lies _ rfl _ _ 43 rfl w.heap.size 45 i0 .nilIface 1 16 Yba.underlying43 hi hz0 hz1 hz2 rfl (by decide) _ _ _ rfl (M2.out.co.alloc _) ⟨w4.heap.size, 0, none⟩ 1 1 [.iface T (.pointer (some ⟨eb, 0, none⟩))] rfl rfl ?qc2 ?qc3 (by decide) ?qc4 ?qc5 ?qc6 (w4.heap.size + 1) ?qcH ?_)
            case qc2 => exact cell_one_new _ _ _
            case qc3 => intro u hu; simp at hu; subst hu; rfl
            case qc4 => unfold maxLen; omega
            case qc5 => omega
            case qc6 => have := M2.out.below.size; simp; omega
            case qcH => simp
            intro g6 cap6 w6 hown hgrow hat hl6
            have S6 : Hid (St w w6 (k + 1) (.slice (some ⟨g4, 0, none⟩) (ss2.length + 1) cap4) (.slice (some ⟨g6, 0, none⟩) (cs.length + 1) cap6) (ss2 ++ [.iface T (.pointer (some ⟨eb, 0, none⟩))]) (cs ++ [.iface T (.pointer (some ⟨eb, 0, none⟩))])) := M2.out.push hown hgrow hat
            clear hown hgrow hat hl6 M2
            go_wp2_with fail
            go_roundw
            case rel => first | exact ⟨k + 1, _, _, by omega, by go_num, S6.out⟩ | ((repeat apply Exists.intro); exact ⟨⟨by omega, by go_num, S6.out⟩, rfl⟩)
            case measure => simp [intOf]; omega
    · skip
      as_aux_lemma =>
        obtain ⟨wR, hwR⟩ : ∃ x, x = wr := ⟨_, rfl⟩
        subst hwR
        obtain rfl : k = n := by omega
        have TXR : Hid (Texts wR a1 n1) := fun i hi => by
          obtain ⟨b, off, s, h1, h2⟩ := TX.out i hi
          exact ⟨b, off, s, h1, by rw [ST.out.below.cell (p := ⟨b, off + i, none⟩) (World.block_lt_of_cell? w _ h2)]; exact h2⟩
        clear BY TX
        go_upto_if 214 with (fail)
        go_cut [5, 6, 18] (fun s c _ wx => ∃ (k2 : Nat) (ss2 cs2 : List Value) (n2 m2 : Nat) (a2 a6 : Option Addr) (cap2 cap6 : Nat), s = .slice a2 n2 cap2 ∧ c = .slice a6 m2 cap6 ∧ n2 = ss2.length ∧ m2 = cs2.length ∧ 0 < n2 ∧ m2 ≤ 513 ∧ St w wx k2 (.slice a2 n2 cap2) (.slice a6 m2 cap6) ss2 cs2)
        case first =>
          as_aux_lemma =>
            by_cases h0 : ss.length = 0
            · obtain rfl : ss = [] := List.eq_nil_of_length_eq_zero h0
              clear h0 hss HSF
              go_wp2_with fail
              refine (leafI _ n1 cap1 wR a1 (by omega) (by omega) HM.out TXR.out).mono ?_
              rintro e w1 ⟨T, o, hT, rfl, rfl⟩
              have M : Hid (Mid w (wR.alloc o) k (.slice sa ([] : List Value).length caps) (.slice ac cs.length capc) (.iface T (.pointer (some ⟨wR.heap.size, 0, none⟩))) [] cs) :=
                St.mid (us := []) ST.out ((Below.refl _ _).alloc (Nat.le_refl _) _) (by simp) ST.out.so rfl (fun c2 hc2 => ⟨T, wR.heap.size, [], rfl, by rw [show c2 = [] from hc2], .inl ⟨hT, rfl⟩⟩)
              clear ST TXR
              generalize wR.alloc o = wc at M ⊢
              generalize wR.heap.size = eb at M ⊢
              go_wp2_with (at_builtin; refine wpList_append_lies _ rfl _ _ 43 rfl w.heap.size 45 i0 .nilIface 1 16 Yba.underlying43 hi hz0 hz1 hz2 rfl (by decide) _ _ _ rfl (M.out.so.alloc _) ⟨wc.heap.size, 0, none⟩ 1 1 [.iface T (.pointer (some ⟨eb, 0, none⟩))] rfl rfl ?qc2 ?qc3 (by decide) ?qc4 ?qc5 ?qc6 (wc.heap.size + 1) ?qcH ?_)
              case qc2 => exact cell_one_new _ _ _
              case qc3 => intro u hu; simp at hu; subst hu; rfl
              case qc4 => unfold maxLen; simp
              case qc5 => simp
              case qc6 => have := M.out.below.size; simp; omega
              case qcH => simp
              intro g4 cap4 w4 hown hgrow hat hl4
              have M2 : Hid (Mid2 w w4 k (.slice (some ⟨g4, 0, none⟩) (([] : List Value).length + 1) cap4) (.slice ac cs.length capc) (.iface T (.pointer (some ⟨eb, 0, none⟩))) [] cs) := M.out.push hown hgrow hat
              clear hown hgrow hat hl4 M
              go_wp2_with (at_builtin; refine wpList_append_lies _ rfl _ _ 43 rfl w.heap.size 45 i0 .nilIface 1 16 Yba.underlying43 hi hz0 hz1 hz2 rfl (by decide) _ _ _ rfl (M2.out.co.alloc _) ⟨w4.heap.size, 0, none⟩ 1 1 [.iface T (.pointer (some ⟨eb, 0, none⟩))] rfl rfl ?qc2 ?qc3 (by decide) ?qc4 ?qc5 ?qc6 (w4.heap.size + 1) ?qcH ?_)
              case qc2 => exact cell_one_new _ _ _
              case qc3 => intro u hu; simp at hu; subst hu; rfl
              case qc4 => unfold maxLen; omega
              case qc5 => omega
              case qc6 => have := M2.out.below.size; simp; omega
              case qcH => simp
              intro g6 cap6 w6 hown hgrow hat hl6
              have S6 : Hid (St w w6 (k + 1) (.slice (some ⟨g4, 0, none⟩) (([] : List Value).length + 1) cap4) (.slice (some ⟨g6, 0, none⟩) (cs.length + 1) cap6) ([] ++ [.iface T (.pointer (some ⟨eb, 0, none⟩))]) (cs ++ [.iface T (.pointer (some ⟨eb, 0, none⟩))])) := M2.out.push hown hgrow hat
              clear hown hgrow hat hl6 M2
              go_wp2_with fail
              go_meet
              case rel => exact ⟨k + 1, _, _, 1, cs.length + 1, _, _, cap4, cap6, rfl, rfl, rfl, by simp, by omega, by omega, S6.out⟩
            · have h0' : ((ss.length : Int) == 0) = false := by simpa using h0
              go_wp2_with fail
              go_meet
              case rel => exact ⟨k, ss, cs, ss.length, cs.length, sa, ac, caps, capc, rfl, rfl, rfl, rfl, by omega, by omega, ST.out⟩
        case rest =>
          as_aux_lemma =>
            obtain ⟨k2, ss2, cs2, n2, m2, a2, a6, cap2, cap6, rfl, rfl, hn2, hm2, hpos, hm5, hst⟩ := hcut
            obtain ⟨w2, hw2⟩ : ∃ x, x = wc := ⟨_, rfl⟩
            subst hw2
            have hsl := Forest.len hst.forest
            have hn5 : n2 ≤ 513 := by omega
            obtain ⟨g, rfl, hg1, hg2, hcap, hcell⟩ := St.arr hst hn2 (by omega)
            have hcap' : n2 ≤ cap2 := by omega
            have ST2 : Hid (St w w2 k2 (.slice (some ⟨g, 0, none⟩) n2 cap2) (.slice a6 m2 cap6) ss2 cs2) := hst
            have HN2 : Hid (n2 = ss2.length) := hn2
            have HM2 : Hid (m2 = cs2.length) := hm2
            have HC : Hid (∀ (j : Nat) (u : Value), ss2[j]? = some u → w2.cell? ((⟨g, 0, none⟩ : Addr).add j) = some u) := fun j u hj => by
              rw [Addr.add_lit, Nat.zero_add]
              exact hcell j u hj
            have HN1 : Hid (∀ u ∈ ss2, u.oneCell' = true) := hst.forest.one_cell
            clear hst hsl hcell hn2 hm2 hcap ST TXR HSF hss hcs
            go_upto_if 227 with (fail)
            go_cut [5, 6, 19] (fun s c _ wx => ∃ (g cap3 m3 cap4 : Nat) (a4 : Option Addr) (u : Value) (cs3 : List Value), s = .slice (some ⟨g, 0, none⟩) 1 cap3 ∧ c = .slice a4 m3 cap4 ∧ m3 = cs3.length ∧ 1 ≤ cap3 ∧ m3 ≤ 600 ∧ End w wx g (.slice a4 m3 cap4) u cs3)
            case first =>
              as_aux_lemma =>
                by_cases h1 : n2 = 1
                · subst h1
                  obtain ⟨u, hu⟩ : ∃ u, ss2 = [u] := List.length_eq_one_iff.1 HN2.out.symm
                  subst hu
                  go_wp2_with fail
                  go_meet
                  case rel => exact ⟨g, cap2, m2, cap6, a6, u, cs2, rfl, rfl, HM2.out, by omega, by omega, St.end1 ST2.out⟩
                · skip
                  go_wp2_with (at_builtin; refine wpList_append_own _ rfl _ _ 43 rfl w2.heap.size 45 i0 .nilIface 1 16 Yba.underlying43 hi hz0 hz1 hz2 rfl (by decide) _ _ _ rfl (World.ownsRow_nil w2 w2.heap.size 45 1) ⟨g, 0, none⟩ n2 _ ss2 rfl ?qc1 ?qc2 ?qc3 ?qc4 ?qc5 ?qc6 ?_)
                  case qc1 => have := HN2.out; omega
                  case qc2 => exact HC.out
                  case qc3 => exact HN1.out
                  case qc4 => unfold maxLen; omega
                  case qc5 => omega
                  case qc6 => exact Nat.le_refl _
                  intro iv w1 hown hgrow hnil
                  clear hnil
                  have HI0 : w1.ownsRow w2.heap.size 45 1 iv n2 ss2 := by simpa using hown
                  obtain ⟨ia, capi, e1, hia⟩ := own_form HI0
                  subst e1
                  have HI : Hid (w1.ownsRow w2.heap.size 45 1 (.slice ia n2 capi) n2 ss2) := HI0
                  have HB : Hid (Below w2.heap.size w2 w1) := below_of_grown hgrow
                  have HCO : Hid (w1.ownsRow w.heap.size 45 1 (.slice a6 m2 cap6) m2 cs2) := by have h9 := own_later ST2.out.co HB.out; rw [← HM2.out] at h9; exact h9
                  have HSZ : Hid (w.heap.size ≤ w1.heap.size) := Nat.le_trans ST2.out.below.size HB.out.size
                  clear hown hgrow HI0 hia
                  go_wp2_with (at_builtin; refine wpList_append_lies _ rfl _ _ 43 rfl w.heap.size 45 i0 .nilIface 1 16 Yba.underlying43 hi hz0 hz1 hz2 rfl (by decide) _ _ _ rfl (((HCO.out.alloc _).alloc _).alloc _) _ 1 1 [.iface 50 (.pointer (some ⟨w1.heap.size, 0, none⟩))] rfl rfl ?qc2 ?qc3 (by decide) ?qc4 ?qc5 ?qc6 (w1.heap.size + 3) ?qcH ?_)
                  case qc2 => exact cell_third _ _ _ _ _
                  case qc3 => intro u hu; simp at hu; subst hu; rfl
                  case qc4 => unfold maxLen; omega
                  case qc5 => omega
                  case qc6 => have := HSZ.out; simp; omega
                  case qcH => simp
                  intro g4 cap4 w4 hown hgrow hat hl4
                  have HE : Hid (End w w4 (w1.heap.size + 1) (.slice (some ⟨g4, 0, none⟩) (m2 + 1) cap4) (.iface 50 (.pointer (some ⟨w1.heap.size, 0, none⟩))) (cs2 ++ [.iface 50 (.pointer (some ⟨w1.heap.size, 0, none⟩))])) := by
                    have hI := HI.out
                    have hM := HM2.out
                    have hN := HN2.out
                    subst hN
                    subst hM
                    exact St.end2 rfl ST2.out HB.out hI hown hgrow
                  clear hown hgrow hat hl4
                  go_wp2_with fail
                  go_meet
                  case rel => exact ⟨_, 1, m2 + 1, cap4, _, _, _, rfl, rfl, by rw [HM2.out]; simp, by omega, by omega, HE.out⟩
            case rest =>
              as_aux_lemma =>
                obtain ⟨g3, cap3, m3, cap4, a4, u, cs3, rfl, rfl, hm3, hc3, hm6, hE⟩ := hcut
                obtain ⟨w3, hw3⟩ : ∃ x, x = wc := ⟨_, rfl⟩
                subst hw3
                obtain ⟨d, ht⟩ := hE.tree
                have htop := hE.top
                have HND : Hid (∀ x ∈ cs3, Node x) := ht.nodes
                have HE : Hid (End w w3 g3 (.slice a4 m3 cap4) u cs3) := hE
                have HM3 : Hid (m3 = cs3.length) := hm3
                have HV : Hid (Calls Yba.prog 12 #[u, .func (.func 13) #[] #[.pointer (some ⟨w3.heap.size, 0, none⟩)]] (w3.alloc (.cells #[.slice none 0 0] 43)) fun e w' => e = .returned (.tuple #[]) ∧ Below w3.heap.size (w3.alloc (.cells #[.slice none 0 0] 43)) w' ∧ LogAt w' w3.heap.size ([] ++ cs3)) :=
                  visits d w3.heap.size (fun b => b < w3.heap.size) u cs3 [] _ (fun _ h => h) (ht.mono (fun _ h => h) (fun b o hb => World.cell?_alloc_lt _ _ _ hb) (Nat.le_refl _)) ⟨.slice none 0 0, by simp, by simp, World.ownsRow_nil _ _ _ _⟩ (by simp; omega)
                clear hE ht hm3 ST2 HN2 HM2 HC HN1 hcap' hg1 hg2 hpos hm5 hn5
                go_wp2_with fail
                clear htop
                refine HV.out.mono ?_
                rintro e w4 ⟨rfl, hb4, lv, hcL, hzL, hown⟩
                rw [List.nil_append] at hown
                obtain ⟨la, lcap, rfl, hla⟩ := own_form hown
                have HOL : Hid (w4.ownsRow (w3.heap.size + 1) 45 1 (.slice la m3 lcap) m3 cs3) := by rw [HM3.out]; exact hown
                have HL : Hid (w4.cell? ⟨w3.heap.size, 0, none⟩ = some (.slice la m3 lcap)) := by rw [HM3.out]; exact hcL
                have HB4 : Hid (Below w.heap.size w w4) := (HE.out.below.alloc HE.out.below.size _).trans (hb4.mono HE.out.below.size)
                have HOC : Hid (w4.ownsRow w.heap.size 45 1 (.slice a4 m3 cap4) m3 cs3) := by
                  have h9 := HE.out.co
                  rw [← HM3.out] at h9
                  exact h9.kept (w' := w4) (row := none) ⟨hb4.os, hb4.tape, hb4.output, Nat.le_trans (by simp) hb4.size, fun k hk _ => by rw [hb4.block k hk]; exact Below.heap_alloc _ _ _ hk⟩ (by cases (Value.slice a4 m3 cap4).ownBlock <;> simp)
                clear hcL hzL hown hla hb4 HV HE
                generalize w3.heap.size = L at HOL HL ⊢
                have hcL : w4.cell? ⟨L, 0, none⟩ = some (.slice la m3 lcap) := HL.out
                go_wp2_with fail
                clear hcL
                go_loopw [253] (fun i wx => ∃ i1 : Nat, i = .int .i64 i1 ∧ i1 ≤ m3 ∧ wx.heap = w4.heap ∧ Below w.heap.size w wx) (fun i _ => m3 - (intOf i).toNat)
                case atStart => exact ⟨0, rfl, Nat.zero_le _, rfl, HB4.out⟩
                case round =>
                  as_aux_lemma =>
                    obtain ⟨wx, hwx⟩ : ∃ x, x = wr := ⟨_, rfl⟩
                    subst hwx
                    obtain ⟨i, rfl, hi1, hh, hbx⟩ := hrel
                    have HH : Hid (wx.heap = w4.heap) := hh
                    have HBX : Hid (Below w.heap.size w wx) := hbx
                    clear hh hbx
                    have hcL : wx.cell? ⟨L, 0, none⟩ = some (.slice la m3 lcap) := by rw [World.cell?_of_block (w := w4) (w' := wx) (by rw [HH.out])]; exact HL.out
                    by_cases hlt3 : i < m3
                    · obtain ⟨v, hv⟩ : ∃ v, cs3[i]? = some v := ⟨cs3[i]'(by have := HM3.out; omega), List.getElem?_eq_getElem _⟩
                      have hnv := HND.out v (List.mem_of_getElem? hv)
                      have hq := neq_same hnv
                      obtain ⟨T, b, hT, rfl⟩ := hnv
                      clear hT
                      obtain ⟨gl, rfl, hcl⟩ : ∃ gl, la = some ⟨gl, 0, none⟩ ∧ wx.cell? ⟨gl, i, none⟩ = some (.iface T (.pointer (some ⟨b, 0, none⟩))) := by
                        obtain ⟨a', cap', e, hf⟩ := own_form HOL.out
                        cases e
                        rcases hf with ⟨_, h0, _⟩ | ⟨gl, rfl, _, _⟩
                        · omega
                        · exact ⟨gl, rfl, by rw [World.cell?_of_block (w := w4) (w' := wx) (by rw [HH.out])]; exact cell_own HOL.out i _ hv⟩
                      obtain ⟨ga, rfl, hca⟩ : ∃ ga, a4 = some ⟨ga, 0, none⟩ ∧ wx.cell? ⟨ga, i, none⟩ = some (.iface T (.pointer (some ⟨b, 0, none⟩))) := by
                        obtain ⟨a', cap', e, hf⟩ := own_form HOC.out
                        cases e
                        rcases hf with ⟨_, h0, _⟩ | ⟨ga, rfl, _, _⟩
                        · omega
                        · exact ⟨ga, rfl, by rw [World.cell?_of_block (w := w4) (w' := wx) (by rw [HH.out])]; exact cell_own HOC.out i _ hv⟩
                      clear hv
                      go_wp2_with fail
                      go_quiet (fail)
                      go_wp2_with fail
                      go_roundw
                      case rel => exact ⟨i + 1, by go_num, by omega, HH.out, Below.drewN' HBX.out⟩
                      case measure => simp [intOf]; omega
                    · go_wp2_with fail
                      go_ret
                      exact ⟨rfl, HBX.out⟩
end Go.Proofs.Ybulkbucw
