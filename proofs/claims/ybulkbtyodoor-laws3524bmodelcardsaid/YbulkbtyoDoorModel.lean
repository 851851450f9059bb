/-
  LawS3524BModel: THE WALK, THE ROW, THE TIED CARD.
-/
import Derived.Test.YbulkbtyoDoorMet
import Derived.Test.YbulkbtyoDoorTie
import Derived.Test.YbulkbtyoDoorCards
import Derived.Test.YbulkbtyoDoorPacked
import Derived.SevenTiedAt
namespace Go.Proofs.YbulkbtyoDoor
open Go.ChangeShapes Go.WideShapes Go.ChangeAt Go.RowKit
open Go.ChangeMaps (open_string shut_string)

theorem start_nat (n : Nat) (x : Int) (hn : n ≤ 1048576) : ∃ j : Nat, j ≤ n ∧ wrap64 (x % ((n : Int) + 1)) = (j : Int) := by
  have h1 := Int.emod_nonneg x (show (n : Int) + 1 ≠ 0 by omega)
  have h2 := Int.emod_lt_of_pos x (show 0 < (n : Int) + 1 by omega)
  generalize x % ((n : Int) + 1) = y at h1 h2
  refine ⟨y.toNat, by omega, ?_⟩
  simp only [wrap64]
  omega

set_option maxHeartbeats 400000 in
theorem model_law (s : ByteArray) (x : Int) (w : World) (hs : s.size ≤ maxLen) (h0 : 0 ≤ x) (hD : ∀ c : UInt8, w.cell? ⟨0, c.toNat, none⟩ = some (.int .u8 (dg c))) :
    Calls Ybad.prog 3 #[.string s, .int .u64 x] w fun e w' => e = .returned (.bool true) ∧ w' = w := by
  by_cases hl : (1048576 : Int) < s.size
  · unfold maxLen at hs
    clear hD
    go_enter Ybad.func3, Ybad.ntmps3
    go_wp2
    go_ret
    exact ⟨rfl, rfl⟩
  · obtain ⟨j, hj, ej⟩ := start_nat s.size x (by omega)
    obtain ⟨a, b, hp, hq⟩ : ∃ a b : Int, Hid (Calls Ybad.prog 6 #[.string s, .int .i64 (wrap64 (x % ((s.size : Int) + 1)))] w fun e w' => e = .returned (.tuple #[.int .u64 a, .int .i64 b]) ∧ w' = w) ∧
        Hid (Calls Ybad.prog 7 #[.string s, .int .i64 (wrap64 (x % ((s.size : Int) + 1)))] w fun e w' => e = .returned (.tuple #[.int .u64 a, .int .i64 b]) ∧ w' = w) := by
      rw [ej]
      exact ⟨_, _, packed_any s j w hj hs hD, model_any s j w hj hs⟩
    clear hD ej hj
    unfold maxLen at hs
    go_enter Ybad.func3, Ybad.ntmps3
    go_wp2_with (first | (go_at_call 6; refine hp.out.mono ?_; rintro e w' ⟨rfl, rfl⟩) | (go_at_call 7; refine hq.out.mono ?_; rintro e w' ⟨rfl, rfl⟩))
    go_ret
    exact ⟨by simp, rfl⟩

set_option maxRecDepth 100000 in
theorem model_lifted (os : Os) (started : os.Started) (H : Type) (enc : TypeId × Value → H) :
    ReturnsInHanded {} Ybad.checked os 3 .any (fun w args => (Rows.lawS3524BModelSpec.pre enc Ybad.prog Ybad.f3 [] false w args ∧ laidMetH Ybad.prog laid1 w) ∧ sizedMet enc Ybad.prog Ybad.f3 (OpenSpec.ofChange Rows.lawS3524BModelSpec) false w args)
      (Rows.lawS3524BModelSpec.post enc Ybad.prog Ybad.f3 false true false false) := by
  refine returnsInHanded_of_change_and (C := Ybad.checked) (X := fun w _ => laidMetH Ybad.prog laid1 w) (fun _ _ _ hh h => h.of_heap hh) own started (by kernel_rfl) Ybad.func3
    (ChangeSpec.witness_shaped (enc := enc) (C := Ybad.checked) (os := os) (X := fun w _ => laidMetH Ybad.prog laid1 w) false (World.doorLaid Ybad.prog 2090 os) #[.string ByteArray.empty, .int .u64 0] 8 rfl (World.shaped_of_RefB (by kernel_rfl) (by kernel_rfl)) (by kernel_rfl) (by kernel_rfl) (by kernel_rfl) (door_met os _)) ?_
  intro W base args ds gs before hval0 hW _ _ hL _
  have hval : ∀ (j : Nat) t v, Ybad.f3.params[j]? = some t → args[j]? = some v → Value.okWide Ybad.prog W .any base t v := hval0
  have hW' := hW
  obtain ⟨p, q, hA0, hV0, rfl, hfz, hnd⟩ := hW
  have hA : DataW.TrodAll enc Ybad.prog W 0 (fun _ => true) true Ybad.f3.params.toList args.toList ds p := hA0
  have hV : DataW.TrodVars enc Ybad.prog W (fun _ => true) [vn] gs q := hV0
  rw [Ybad.params3] at hA hval
  obtain ⟨v0, v1, d0, d1, p0, p1, rfl, rfl, rfl, h0, h1⟩ := trodAll_two hA
  obtain ⟨s, rfl, rfl, rfl, hs⟩ := open_string Ybad.underlying9 (hval 0 9 v0 rfl rfl) h0
  obtain ⟨k, rfl, rfl, rfl, wk⟩ := open_int Ybad.underlying22 (hval 1 22 v1 rfl rfl) h1
  obtain ⟨g, t, cs, fuel, d, p', rfl, hg, ht, hvar, hd, rfl⟩ := trodVars_one hV
  obtain rfl := Option.some.inj (gItem.symm.trans hg)
  obtain rfl := Option.some.inj (tItem.symm.trans ht)
  obtain rfl : cs = cellsA := Option.some.inj (hvar.symm.trans (tab_of_laid hL))
  obtain ⟨rfl, rfl⟩ := DataW.Trod.unique (v := .agg cellsA) ⟨fuel, hd⟩ ⟨3, reads_table enc W _⟩
  clear hA0 hV0 hval0
  have hk := bounds_u64 wk
  refine (model_law s k W hs hk.1 (tab_cell hL)).mono fun e W' ⟨he, hw⟩ => ?_
  subst he; subst hw
  exact ⟨_, rfl, post_of_same (pa := []) hW' (fun _ _ _ => trodAll_mk1 (shut_bool Ybad.underlying4 true)) (fun sp _ => trodAll_mk2 (shut_string Ybad.underlying9 hs) (shut_int Ybad.underlying22 wk)) (fun sp _ => vars_again enc hvar sp) (by simp)
      (World.keptBut_refl _ _) (fun _ => rfl) (ok_one (by kernel_rfl) rfl (okWide_bool_mk Ybad.underlying4 _))⟩

theorem model_row : Rows.LawS3524BModelSaid :=
  OpenClaim.holds_of_wide 3 Ybad.f3 rfl rfl rfl rfl rfl rfl rfl ⟨rfl, rfl, rfl, rfl, rfl⟩ rfl rfl rfl rfl rfl (by kernel_rfl) Ybad.func3 (by kernel_rfl)
    (of_decide_eq_true (by kernel_rfl)) (by unfold Func.isWrapper; first | (rw [if_pos (by decide +kernel)]; kernel_rfl) | (rw [if_neg (by decide +kernel)]; exact ⟨rfl, rfl⟩))
    (fun os started H enc _ => model_lifted os started H enc)

/-- ████ THE TIED CARD ████ -/
theorem model_card : Rows.LawS3524BModelCardSaid :=
  Claim7.holds_tied_plain_at .later [] [.called] true (true, "a667f73ace729423b6c9de544650b4dcd6301e9f70325442e3b1bb257321d982") false
    model_row (fun _ h => by cases h) (by kernel_rfl) (fun _ h => by cases h) lawS3524BModel_row_tie rfl ⟨rfl, rfl⟩ (by kernel_rfl) rfl
    (fun f fn hf hfn => by
      obtain rfl : f = 3 := Option.some.inj ((show Ybad.prog.funcNamed Rows.lawS3524BModelRow.func = some 3 by kernel_rfl).symm.trans hf) |>.symm
      obtain rfl : fn = Ybad.f3 := (Option.some.inj (Ybad.func3.symm.trans hfn)).symm
      exact ⟨by kernel_rfl, fun j t ht => by
        rw [Ybad.params3] at ht
        have hm : t ∈ [9, 22] := by simpa using Array.mem_of_getElem? ht
        have hall : ([9, 22].all fun u => !Ybad.prog.wantsStandIn u) = true := by kernel_rfl
        exact (show Ybad.prog.wantsStandIn t = false by simpa using List.all_eq_true.1 hall t hm)⟩)
    (by kernel_rfl)
#print axioms model_card
end Go.Proofs.YbulkbtyoDoor
