/-
  LawS3532CPostOrder: THE ROW.
-/
import Derived.Test.YbulkbucwCLaw
import Derived.WalkKit
import Derived.ProofKit
import Derived.OpenShut
import Derived.ChangeOld
import Derived.Below
import Derived.Deep.Strs
namespace Go.Proofs.Ybulkbucw.lawS3532CPostOrder
open Go.ChangeShapes Go.WideShapes Go.ChangeAt Go.RowKit

theorem own : ownKnob Yba.prog.godebug = none := by kernel_rfl
theorem laidOut : laidOutB Yba.prog = true := by kernel_rfl

set_option maxRecDepth 100000 in
/-- A script of more than 512 bytes: true at once. -/
theorem lawC_big (a0 : Option Addr) (n cap0 : Nat) (a1 : Option Addr) (n1 cap1 : Nat) (w : World) (hn : 512 < n) :
    Calls Yba.prog 5 #[.slice a0 n cap0, .slice a1 n1 cap1] w fun e w' => e = .returned (.bool true) ∧ Below w.heap.size w w' := by
  go_enter Yba.func5, Yba.ntmps5
  go_wp2_with fail
  go_ret
  exact ⟨rfl, Below.refl _ _⟩
theorem lawC_any (a0 : Option Addr) (n cap0 : Nat) (a1 : Option Addr) (n1 cap1 : Nat) (w : World) (hm : n1 ≤ maxLen) (hby : Bytes w a0 n) (htx : Texts w a1 n1) :
    Calls Yba.prog 5 #[.slice a0 n cap0, .slice a1 n1 cap1] w fun e w' => e = .returned (.bool true) ∧ Below w.heap.size w w' := by
  by_cases h : n ≤ 512
  · exact lawC a0 n cap0 a1 n1 cap1 w h hm hby htx
  · exact lawC_big a0 n cap0 a1 n1 cap1 w (by omega)

/-- A plain address, out of cells that are there. -/
theorem plain_of {W : World} {a : Addr} {i : Nat} {v v0 : Value} (h0 : W.cell? (a.add 0) = some v0) (h : W.cell? (a.add i) = some v) : ∃ b off, a = ⟨b, off, none⟩ ∧ W.cell? ⟨b, off + i, none⟩ = some v := by
  have h1 := World.cell?_spot h0
  obtain ⟨b, off, spot⟩ := a
  have hs : spot = none := by simpa [Addr.add] using h1
  subst hs
  exact ⟨b, off, rfl, by simpa only [Go.WideShapes.add_plain] using h⟩

set_option maxRecDepth 100000 in
theorem lifted (os : Os) (started : os.Started) (H : Type) (enc : TypeId × Value → H) :
    ReturnsInHanded {} Yba.checked os 5 .any (Rows.lawS3532CPostOrderSpec.pre6 enc Yba.prog Yba.f5 Rows.lawS3532CPostOrderRow.domain false) (Rows.lawS3532CPostOrderSpec.post enc Yba.prog Yba.f5 false true false false) := by
  refine returnsInHanded_of_change (C := Yba.checked) own started (by kernel_rfl) Yba.func5
    (ChangeSpec.witness6 (enc := enc) (C := Yba.checked) false ⟨#[], #[.slice none 0 0, .slice none 0 0], []⟩ 8 (by kernel_rfl) (by kernel_rfl) (by kernel_rfl) (by kernel_rfl)) ?_
  intro W base args ds gs before hval0 hW _ _
  have hval : ∀ (j : Nat) t v, Yba.f5.params[j]? = some t → args[j]? = some v → Value.okWide Yba.prog W .any base t v := hval0
  have hW' := hW
  obtain ⟨p, q, hA0, hV, rfl, _, _⟩ := hW
  have hA : DataW.TrodAll enc Yba.prog W 0 (fun _ => true) true Yba.f5.params.toList args.toList ds p := hA0
  rw [Yba.params5] at hA hval
  obtain ⟨v0, v1, d0, d1, p0, p1, rfl, rfl, rfl, h0, h1⟩ := trodAll_two hA
  obtain ⟨rfl, rfl⟩ := trodVars_none hV
  obtain ⟨a0, len0, cap0, rfl⟩ := okWide_slice Yba.underlying41 (hval 0 41 v0 rfl rfl)
  obtain ⟨a1, len1, cap1, rfl⟩ := okWide_slice Yba.underlying42 (hval 1 42 v1 rfl rfl)
  have lt0 : ∀ x ∈ p0, x.block < W.heap.size := by obtain ⟨m, hm⟩ := h0; exact DataW.trod_lt m _ _ _ hm
  have lt1 : ∀ x ∈ p1, x.block < W.heap.size := by obtain ⟨m, hm⟩ := h1; exact DataW.trod_lt m _ _ _ hm
  have hby : Bytes W a0 len0 := by
    obtain ⟨fuel, hf⟩ := h0
    rcases open_ints Yba.underlying41 Yba.underlying5 (by kernel_rfl) hf with ⟨hcs, _⟩ | ⟨x, l, c, zs, hcs, _, hl, hm, hz, _, hcell, hwz⟩
    · simp [Value.cells] at hcs
      obtain ⟨rfl, rfl, rfl⟩ := hcs
      exact fun i hi => by omega
    · simp [Value.cells] at hcs
      obtain ⟨rfl, rfl, rfl⟩ := hcs
      simp only [if_true] at hz
      intro i hi
      obtain ⟨b, off, rfl, hc⟩ := plain_of (hcell 0 (by omega)) (hcell i (by omega))
      have hmem : zs.getD i 0 ∈ zs := by
        rw [List.getD_eq_getElem?_getD, List.getElem?_eq_getElem (show i < zs.length by omega)]
        exact List.getElem_mem _
      have hw := bounds_u8 (hwz _ hmem)
      exact ⟨b, off, _, rfl, hc, hw.1, hw.2⟩
  have htx : Texts W a1 len1 ∧ len1 ≤ maxLen := by
    obtain ⟨fuel, hf⟩ := h1
    rcases Go.Deep.open_strs Yba.underlying42 Yba.underlying9 (by kernel_rfl) hf with ⟨hcs, _⟩ | ⟨x, l, c, m, ss, hcs, _, hl, hm, hz, _, hcell⟩
    · simp [Value.cells] at hcs
      obtain ⟨rfl, rfl, rfl⟩ := hcs
      exact ⟨fun i hi => by omega, Nat.zero_le _⟩
    · simp [Value.cells] at hcs
      obtain ⟨rfl, rfl, rfl⟩ := hcs
      simp only [if_true] at hz
      refine ⟨fun i hi => ?_, by omega⟩
      obtain ⟨b, off, rfl, hc⟩ := plain_of (hcell 0 (by omega)).1 (hcell i (by omega)).1
      exact ⟨b, off, _, rfl, hc⟩
  clear hA0 hval0
  refine (lawC_any a0 len0 cap0 a1 len1 cap1 W htx.2 hby htx.1).mono fun e W' ⟨he, bel⟩ => ?_
  subst he
  exact ⟨_, rfl, _, _, _, [], _, [], hW', trodAll_mk1 (shut_bool Yba.underlying4 _), trodAll_mk2 (Below.trod laidOut (by kernel_rfl) (of_decide_eq_true (by kernel_rfl)) h0 bel lt0) (Below.trod laidOut (by kernel_rfl) (of_decide_eq_true (by kernel_rfl)) h1 bel lt1), rfl, bel.frame _, fun h => by cases h⟩

theorem over : Rows.lawS3532CPostOrderRow.holds Yba.pinned (OpenSpec.ofChange Rows.lawS3532CPostOrderSpec) :=
  OpenClaim.holds_of_wide 5 Yba.f5 rfl rfl rfl rfl rfl rfl rfl ⟨rfl, rfl, rfl, rfl, rfl⟩ rfl rfl rfl rfl rfl (by kernel_rfl) Yba.func5 (by kernel_rfl)
    (of_decide_eq_true (by kernel_rfl)) (by unfold Func.isWrapper; first | (rw [if_pos (by decide +kernel)]; kernel_rfl) | (rw [if_neg (by decide +kernel)]; exact ⟨rfl, rfl⟩))
    (fun os started H enc _ => lifted os started H enc)
end Go.Proofs.Ybulkbucw.lawS3532CPostOrder
namespace Go.Proofs.Ybulkbucw
/-- ████ THE STATEMENT ████ -/
theorem cPostOrder_proved : Rows.LawS3532CPostOrderSaid := lawS3532CPostOrder.over
#print axioms cPostOrder_proved
end Go.Proofs.Ybulkbucw
