/-
  LawS3532BModel: THE ROW.
-/
import Derived.Test.YbulkbucwBLaw
import Derived.WalkKit
import Derived.ProofKit
import Derived.OpenShut
import Derived.ChangeOld
import Derived.Below
import Derived.Deep.Strs
namespace Go.Proofs.Ybulkbucw.lawS3532BModel
open Go.ChangeShapes Go.WideShapes Go.ChangeAt Go.RowKit

theorem own : ownKnob Yba.prog.godebug = none := by kernel_rfl
theorem laidOut : laidOutB Yba.prog = true := by kernel_rfl
theorem Yba.cells74 : Yba.prog.cellsOf 74 = 3 := by kernel_rfl
theorem Yba.cells68 : Yba.prog.cellsOf 68 = 1 := by kernel_rfl
theorem Yba.cells5 : Yba.prog.cellsOf 5 = 1 := by kernel_rfl

set_option maxRecDepth 100000 in
/-- More than 300 ranges: true at once. -/
theorem big0 (a0 : Option Addr) (n cap0 : Nat) (a1 : Option Addr) (n1 cap1 : Nat) (w : World) (hn : 300 < n) :
    Calls Yba.prog 3 #[.slice a0 n cap0, .slice a1 n1 cap1] w fun e w' => e = .returned (.bool true) ∧ Below w.heap.size w w' := by
  go_enter Yba.func3, Yba.ntmps3
  go_wp2_with fail
  go_ret
  exact ⟨rfl, Below.refl _ _⟩
set_option maxRecDepth 100000 in
theorem big1 (a0 : Option Addr) (n cap0 : Nat) (a1 : Option Addr) (n1 cap1 : Nat) (w : World) (h0 : n ≤ 300) (hn : 300 < n1) :
    Calls Yba.prog 3 #[.slice a0 n cap0, .slice a1 n1 cap1] w fun e w' => e = .returned (.bool true) ∧ Below w.heap.size w w' := by
  go_enter Yba.func3, Yba.ntmps3
  go_wp2_with fail
  go_ret
  exact ⟨rfl, Below.refl _ _⟩
theorem law_any (a0 : Option Addr) (cap0 : Nat) (xs : List (Int × Int × Int)) (a1 : Option Addr) (cap1 : Nat) (zs : List (Int × Int × Int)) (w : World) (hix : Inp w a0 xs) (hiz : Inp w a1 zs) :
    Calls Yba.prog 3 #[.slice a0 xs.length cap0, .slice a1 zs.length cap1] w fun e w' => e = .returned (.bool true) ∧ Below w.heap.size w w' := by
  by_cases h : xs.length ≤ 300
  · by_cases h1 : zs.length ≤ 300
    · exact lawB a0 cap0 xs a1 cap1 zs w h h1 hix hiz
    · exact big1 _ _ _ _ _ _ _ h (by omega)
  · exact big0 _ _ _ _ _ _ _ (by omega)

theorem cells3 {w : World} {a : Addr} {cs : List Value} (h : w.cells? 0 a 3 = some cs) : ∃ c0 c1 c2, cs = [c0, c1, c2] ∧ w.cell? (a.add 0) = some c0 ∧ w.cell? (a.add 1) = some c1 ∧ w.cell? (a.add 2) = some c2 := by
  have e : List.range 3 = [0, 1, 2] := rfl
  simp only [World.cells?, Nat.zero_le, if_true, e, List.mapM_cons, List.mapM_nil, Option.bind_eq_bind, Option.bind_eq_some_iff, Option.pure_def, Option.some.injEq] at h
  obtain ⟨c0, h0, _, ⟨c1, h1, _, ⟨c2, h2, _, rfl, rfl⟩, rfl⟩, rfl⟩ := h
  exact ⟨c0, c1, c2, rfl, h0, h1, h2⟩

set_option maxRecDepth 100000 in
theorem open_inp {H : Type} {enc : TypeId × Value → H} {W : World} {a0 : Option Addr} {len cap fuel : Nat} {x : DataW H × List MemPlace} (hf : DataW.trod enc Yba.prog W 0 (fun _ => true) true fuel 22 [.slice a0 len cap] = some x) :
    ∃ xs : List (Int × Int × Int), xs.length = len ∧ Inp W a0 xs := by
  rcases Go.Deep.open_slice Yba.underlying22 hf with ⟨hcs, _⟩ | ⟨a, len', cap', m, n, D, Pl, hcs, _, hl, _, hmm, _, hel⟩
  · simp only [List.cons.injEq, Value.slice.injEq, and_true] at hcs
    obtain ⟨rfl, rfl, rfl⟩ := hcs
    exact ⟨[], rfl, fun i x hx => by simp at hx⟩
  · simp only [List.cons.injEq, Value.slice.injEq, and_true] at hcs
    obtain ⟨rfl, rfl, rfl⟩ := hcs
    simp only [if_true] at hmm
    subst hmm
    have plain : 0 < len → a.spot = none := fun h => by
      obtain ⟨cs', hc, _⟩ := hel 0 (by omega)
      rw [Yba.cells74] at hc
      obtain ⟨c0, c1, c2, _, h0, _⟩ := cells3 hc
      have := World.cell?_spot h0
      simpa [Addr.add] using this
    have key : ∀ i, i < len → ∃ q : Int × Int × Int, ∃ b off, a = ⟨b, off, none⟩ ∧ W.cell? ⟨b, off + i * 3, none⟩ = some (.int .u16 q.1) ∧ W.cell? ⟨b, off + i * 3 + 1, none⟩ = some (.int .u16 q.2.1) ∧ W.cell? ⟨b, off + i * 3 + 2, none⟩ = some (.int .u8 q.2.2) ∧
        0 ≤ q.1 ∧ q.1 ≤ 65535 ∧ 0 ≤ q.2.1 ∧ q.2.1 ≤ 65535 ∧ 0 ≤ q.2.2 ∧ q.2.2 ≤ 255 := fun i hi => by
      obtain ⟨cs', hc, ht⟩ := hel i (by omega)
      rw [Yba.cells74] at hc
      obtain ⟨c0, c1, c2, rfl, h0, h1, h2⟩ := cells3 hc
      obtain ⟨y0, y1, y2, n', _, _, t0, t1, t2⟩ := Go.Deep.trod_struct3 Yba.underlying74 ht
      simp only [Yba.cells5, Yba.cells68] at t0 t1 t2
      obtain ⟨z0, e0, _, w0⟩ := DataW.trod_int Yba.underlying68 t0
      obtain ⟨z1, e1, _, w1⟩ := DataW.trod_int Yba.underlying68 t1
      obtain ⟨z2, e2, _, w2⟩ := DataW.trod_int Yba.underlying5 t2
      simp at e0 e1 e2
      subst e0 e1 e2
      obtain ⟨b, off, spot⟩ := a
      have hspot : spot = none := plain (by omega)
      subst hspot
      simp only [Go.WideShapes.add_plain, Nat.add_zero] at h0 h1 h2
      exact ⟨(z0, z1, z2), b, off, rfl, h0, h1, h2, (bounds_u16 w0).1, (bounds_u16 w0).2, (bounds_u16 w1).1, (bounds_u16 w1).2, (bounds_u8 w2).1, (bounds_u8 w2).2⟩
    obtain ⟨f, hff⟩ := Go.Deep.choose_lt key
    refine ⟨(List.range len).map f, by simp, fun i x hx => ?_⟩
    have hi : i < len := by have := (List.getElem?_eq_some_iff.1 hx).1; simpa using this
    have e : f i = x := by
      rw [List.getElem?_map, List.getElem?_range hi] at hx
      simpa using hx
    subst e
    obtain ⟨b, off, rfl, rest⟩ := hff i hi
    exact ⟨b, off, rfl, rest⟩

set_option maxRecDepth 100000 in
theorem lifted (os : Os) (started : os.Started) (H : Type) (enc : TypeId × Value → H) :
    ReturnsInHanded {} Yba.checked os 3 .any (Rows.lawS3532BModelSpec.pre6 enc Yba.prog Yba.f3 Rows.lawS3532BModelRow.domain false) (Rows.lawS3532BModelSpec.post enc Yba.prog Yba.f3 false true false false) := by
  refine returnsInHanded_of_change (C := Yba.checked) own started (by kernel_rfl) Yba.func3
    (ChangeSpec.witness6 (enc := enc) (C := Yba.checked) false ⟨#[], #[.slice none 0 0, .slice none 0 0], []⟩ 8 (by kernel_rfl) (by kernel_rfl) (by kernel_rfl) (by kernel_rfl)) ?_
  intro W base args ds gs before hval0 hW _ _
  have hval : ∀ (j : Nat) t v, Yba.f3.params[j]? = some t → args[j]? = some v → Value.okWide Yba.prog W .any base t v := hval0
  have hW' := hW
  obtain ⟨p, q, hA0, hV, rfl, _, _⟩ := hW
  have hA : DataW.TrodAll enc Yba.prog W 0 (fun _ => true) true Yba.f3.params.toList args.toList ds p := hA0
  rw [Yba.params3] at hA hval
  obtain ⟨v0, v1, d0, d1, p0, p1, rfl, rfl, rfl, h0, h1⟩ := trodAll_two hA
  obtain ⟨rfl, rfl⟩ := trodVars_none hV
  obtain ⟨a0, len0, cap0, rfl⟩ := okWide_slice Yba.underlying22 (hval 0 22 v0 rfl rfl)
  obtain ⟨a1, len1, cap1, rfl⟩ := okWide_slice Yba.underlying22 (hval 1 22 v1 rfl rfl)
  have lt0 : ∀ x ∈ p0, x.block < W.heap.size := by obtain ⟨m, hm⟩ := h0; exact DataW.trod_lt m _ _ _ hm
  have lt1 : ∀ x ∈ p1, x.block < W.heap.size := by obtain ⟨m, hm⟩ := h1; exact DataW.trod_lt m _ _ _ hm
  obtain ⟨xs, rfl, hx⟩ : ∃ xs : List (Int × Int × Int), xs.length = len0 ∧ Inp W a0 xs := by
    obtain ⟨fuel, hf⟩ := h0
    exact open_inp hf
  obtain ⟨zs, rfl, hz⟩ : ∃ xs : List (Int × Int × Int), xs.length = len1 ∧ Inp W a1 xs := by
    obtain ⟨fuel, hf⟩ := h1
    exact open_inp hf
  clear hA0 hval0
  refine (law_any a0 cap0 xs a1 cap1 zs W hx hz).mono fun e W' ⟨he, bel⟩ => ?_
  subst he
  exact ⟨_, rfl, _, _, _, [], _, [], hW', trodAll_mk1 (shut_bool Yba.underlying4 _), trodAll_mk2 (Below.trod laidOut (by kernel_rfl) (of_decide_eq_true (by kernel_rfl)) h0 bel lt0) (Below.trod laidOut (by kernel_rfl) (of_decide_eq_true (by kernel_rfl)) h1 bel lt1), rfl, bel.frame _, fun h => by cases h⟩

theorem over : Rows.lawS3532BModelRow.holds Yba.pinned (OpenSpec.ofChange Rows.lawS3532BModelSpec) :=
  OpenClaim.holds_of_wide 3 Yba.f3 rfl rfl rfl rfl rfl rfl rfl ⟨rfl, rfl, rfl, rfl, rfl⟩ rfl rfl rfl rfl rfl (by kernel_rfl) Yba.func3 (by kernel_rfl)
    (of_decide_eq_true (by kernel_rfl)) (by unfold Func.isWrapper; first | (rw [if_pos (by decide +kernel)]; kernel_rfl) | (rw [if_neg (by decide +kernel)]; exact ⟨rfl, rfl⟩))
    (fun os started H enc _ => lifted os started H enc)
end Go.Proofs.Ybulkbucw.lawS3532BModel
namespace Go.Proofs.Ybulkbucw
/-- ████ THE STATEMENT ████ -/
theorem bModel_proved : Rows.LawS3532BModelSaid := lawS3532BModel.over
#print axioms bModel_proved
end Go.Proofs.Ybulkbucw
