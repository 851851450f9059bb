/-
  LawS3524BPast: THE WALK, THE ROW, THE TIED CARD.
-/
import Derived.Test.YbulkbtyoDoorMet
import Derived.Test.YbulkbtyoDoorTie
import Derived.Test.YbulkbtyoDoorCards
import Derived.WalkSpells
import Derived.WalkLawsBesides
import Derived.SevenTiedAt
namespace Go.Proofs.YbulkbtyoDoor
open Go.ChangeShapes Go.WideShapes Go.ChangeAt Go.RowKit
open Go.ChangeMaps (open_string shut_string)

set_option maxHeartbeats 400000 in
theorem past_run (s : ByteArray) (j : Int) (w : World) (hs : (s.size : Int) ≤ j) :
    Calls Ybad.prog 6 #[.string s, .int .i64 j] w fun e w' => e = .returned (.tuple #[.int .u64 0, .int .i64 j]) ∧ w' = w := by
  go_enter Ybad.func6, Ybad.ntmps6
  go_wp2
  go_loop [1, 4] (fun i k => i = .int .i64 j ∧ k = .int .u64 0) (fun _ _ => 0)
  case atStart => exact ⟨rfl, rfl⟩
  case round =>
    obtain ⟨rfl, rfl⟩ := hrel
    go_wp2
    go_ret2
    exact ⟨rfl, rfl⟩

set_option maxHeartbeats 400000 in
theorem past_any (s : ByteArray) (k : Int) (w : World) (hs : s.size ≤ maxLen) (h0 : 0 ≤ k) (h1 : k ≤ 65535) :
    Calls Ybad.prog 5 #[.string s, .int .u16 k] w fun e w' => e = .returned (.bool true) ∧ w' = w := by
  unfold maxLen at hs
  by_cases hl : (1048576 : Int) < s.size
  · go_enter Ybad.func5, Ybad.ntmps5
    go_wp2
    go_ret
    exact ⟨rfl, rfl⟩
  · go_enter Ybad.func5, Ybad.ntmps5
    go_wp2_with (go_at_call 6; refine (past_run _ _ _ (by omega)).mono ?_; rintro e w' ⟨rfl, rfl⟩)
    go_ret
    exact ⟨by simp, rfl⟩

set_option maxRecDepth 100000 in
theorem past_lifted (os : Os) (started : os.Started) (H : Type) (enc : TypeId × Value → H) :
    ReturnsInHanded {} Ybad.checked os 5 .any (fun w args => (Rows.lawS3524BPastSpec.pre enc Ybad.prog Ybad.f5 [] false w args ∧ laidMetH Ybad.prog laid1 w) ∧ sizedMet enc Ybad.prog Ybad.f5 (OpenSpec.ofChange Rows.lawS3524BPastSpec) false w args)
      (Rows.lawS3524BPastSpec.post enc Ybad.prog Ybad.f5 false true false false) := by
  refine returnsInHanded_of_change_and (C := Ybad.checked) (X := fun w _ => laidMetH Ybad.prog laid1 w) (fun _ _ _ hh h => h.of_heap hh) own started (by kernel_rfl) Ybad.func5
    (ChangeSpec.witness_shaped (enc := enc) (C := Ybad.checked) (os := os) (X := fun w _ => laidMetH Ybad.prog laid1 w) false (World.doorLaid Ybad.prog 2090 os) #[.string ByteArray.empty, .int .u16 0] 8 rfl (World.shaped_of_RefB (by kernel_rfl) (by kernel_rfl)) (by kernel_rfl) (by kernel_rfl) (by kernel_rfl) (door_met os _)) ?_
  intro W base args ds gs before hval0 hW _ _ hL _
  have hval : ∀ (j : Nat) t v, Ybad.f5.params[j]? = some t → args[j]? = some v → Value.okWide Ybad.prog W .any base t v := hval0
  have hW' := hW
  obtain ⟨p, q, hA0, hV0, rfl, hfz, hnd⟩ := hW
  have hA : DataW.TrodAll enc Ybad.prog W 0 (fun _ => true) true Ybad.f5.params.toList args.toList ds p := hA0
  have hV : DataW.TrodVars enc Ybad.prog W (fun _ => true) [vn] gs q := hV0
  rw [Ybad.params5] at hA hval
  obtain ⟨v0, v1, d0, d1, p0, p1, rfl, rfl, rfl, h0, h1⟩ := trodAll_two hA
  obtain ⟨s, rfl, rfl, rfl, hs⟩ := open_string Ybad.underlying9 (hval 0 9 v0 rfl rfl) h0
  obtain ⟨k, rfl, rfl, rfl, wk⟩ := open_int Ybad.underlying30 (hval 1 30 v1 rfl rfl) h1
  obtain ⟨g, t, cs, fuel, d, p', rfl, hg, ht, hvar, hd, rfl⟩ := trodVars_one hV
  obtain rfl := Option.some.inj (gItem.symm.trans hg)
  obtain rfl := Option.some.inj (tItem.symm.trans ht)
  obtain rfl : cs = cellsA := Option.some.inj (hvar.symm.trans (tab_of_laid hL))
  obtain ⟨rfl, rfl⟩ := DataW.Trod.unique (v := .agg cellsA) ⟨fuel, hd⟩ ⟨3, reads_table enc W _⟩
  clear hA0 hV0 hval0
  have hk := bounds_u16 wk
  refine (past_any s k W hs hk.1 hk.2).mono fun e W' ⟨he, hw⟩ => ?_
  subst he; subst hw
  exact ⟨_, rfl, post_of_same (pa := []) hW' (fun _ _ _ => trodAll_mk1 (shut_bool Ybad.underlying4 true)) (fun sp _ => trodAll_mk2 (shut_string Ybad.underlying9 hs) (shut_int Ybad.underlying30 wk)) (fun sp _ => vars_again enc hvar sp) (by simp)
      (World.keptBut_refl _ _) (fun _ => rfl) (ok_one (by kernel_rfl) rfl (okWide_bool_mk Ybad.underlying4 _))⟩

theorem past_row : Rows.LawS3524BPastSaid :=
  OpenClaim.holds_of_wide 5 Ybad.f5 rfl rfl rfl rfl rfl rfl rfl ⟨rfl, rfl, rfl, rfl, rfl⟩ rfl rfl rfl rfl rfl (by kernel_rfl) Ybad.func5 (by kernel_rfl)
    (of_decide_eq_true (by kernel_rfl)) (by unfold Func.isWrapper; first | (rw [if_pos (by decide +kernel)]; kernel_rfl) | (rw [if_neg (by decide +kernel)]; exact ⟨rfl, rfl⟩))
    (fun os started H enc _ => past_lifted os started H enc)

/-- ████ THE TIED CARD ████ -/
theorem past_card : Rows.LawS3524BPastCardSaid :=
  Claim7.holds_tied_plain_at .later [] [.called] true (true, "a667f73ace729423b6c9de544650b4dcd6301e9f70325442e3b1bb257321d982") false
    past_row (fun _ h => by cases h) (by kernel_rfl) (fun _ h => by cases h) lawS3524BPast_row_tie rfl ⟨rfl, rfl⟩ (by kernel_rfl) rfl
    (fun f fn hf hfn => by
      obtain rfl : f = 5 := Option.some.inj ((show Ybad.prog.funcNamed Rows.lawS3524BPastRow.func = some 5 by kernel_rfl).symm.trans hf) |>.symm
      obtain rfl : fn = Ybad.f5 := (Option.some.inj (Ybad.func5.symm.trans hfn)).symm
      exact ⟨by kernel_rfl, fun j t ht => by
        rw [Ybad.params5] at ht
        have hm : t ∈ [9, 30] := by simpa using Array.mem_of_getElem? ht
        have hall : ([9, 30].all fun u => !Ybad.prog.wantsStandIn u) = true := by kernel_rfl
        exact (show Ybad.prog.wantsStandIn t = false by simpa using List.all_eq_true.1 hall t hm)⟩)
    (by kernel_rfl)
#print axioms past_card
end Go.Proofs.YbulkbtyoDoor
