/-
  THE A LAW's ARGUMENTS, opened: a slice of structs of three integers; an array of four ints by value.
-/
import Derived.Test.YbulkbtyoARows
import Derived.ProofKit
import Derived.OpenShut
import Derived.Deep.Strs
namespace Go.Proofs.Ybulkbtyo
open Go.ChangeShapes Go.WideShapes Go.ChangeAt Go.RowKit

theorem Yba.cells28 : Yba.prog.cellsOf 28 = 3 := by kernel_rfl
theorem Yba.cells5 : Yba.prog.cellsOf 5 = 1 := by kernel_rfl
theorem Yba.cells26 : Yba.prog.cellsOf 26 = 1 := by kernel_rfl
theorem Yba.cells23 : Yba.prog.cellsOf 23 = 4 := by kernel_rfl
theorem Yba.cells3 : Yba.prog.cellsOf 3 = 1 := by kernel_rfl

theorem cells3 {w : World} {a : Addr} {cs : List Value} (h : w.cells? 0 a 3 = some cs) : ∃ c0 c1 c2, cs = [c0, c1, c2] ∧ w.cell? (a.add 0) = some c0 ∧ w.cell? (a.add 1) = some c1 ∧ w.cell? (a.add 2) = some c2 := by
  have e : List.range 3 = [0, 1, 2] := rfl
  simp only [World.cells?, Nat.zero_le, if_true, e, List.mapM_cons, List.mapM_nil, Option.bind_eq_bind, Option.bind_eq_some_iff, Option.pure_def, Option.some.injEq] at h
  obtain ⟨c0, h0, _, ⟨c1, h1, _, ⟨c2, h2, _, rfl, rfl⟩, rfl⟩, rfl⟩ := h
  exact ⟨c0, c1, c2, rfl, h0, h1, h2⟩

theorem open_steps {H : Type} {enc : TypeId × Value → H} {W : World} {a0 : Option Addr} {len cap fuel : Nat} {x : DataW H × List MemPlace} (hf : DataW.trod enc Yba.prog W 0 (fun _ => true) true fuel 22 [.slice a0 len cap] = some x) :
    ∃ kd tx sr, Steps W a0 len kd tx sr := by
  rcases Go.Deep.open_slice Yba.underlying22 hf with ⟨hcs, _⟩ | ⟨a, len', cap', m, n, D, Pl, hcs, _, hl, _, hmm, _, hel⟩
  · simp only [List.cons.injEq, Value.slice.injEq, and_true] at hcs
    obtain ⟨rfl, rfl, rfl⟩ := hcs
    exact ⟨fun _ => 0, fun _ => 0, fun _ => 0, fun i hi => by omega⟩
  · simp only [List.cons.injEq, Value.slice.injEq, and_true] at hcs
    obtain ⟨rfl, rfl, rfl⟩ := hcs
    simp only [if_true] at hmm
    subst hmm
    have plain : 0 < len → a.spot = none := fun h => by
      obtain ⟨cs', hc, _⟩ := hel 0 (by omega)
      rw [Yba.cells28] at hc
      obtain ⟨c0, c1, c2, _, h0, _⟩ := cells3 hc
      have := World.cell?_spot h0
      simpa [Addr.add] using this
    have key : ∀ i, i < len → ∃ q : Int × Int × Int, ∃ b off, a = ⟨b, off, none⟩ ∧ W.cell? ⟨b, off + i * 3, none⟩ = some (.int .u8 q.1) ∧ W.cell? ⟨b, off + i * 3 + 1, none⟩ = some (.int .u8 q.2.1) ∧ W.cell? ⟨b, off + i * 3 + 2, none⟩ = some (.int .u16 q.2.2) ∧
        0 ≤ q.1 ∧ q.1 ≤ 255 ∧ 0 ≤ q.2.1 ∧ q.2.1 ≤ 255 ∧ 0 ≤ q.2.2 ∧ q.2.2 ≤ 65535 := fun i hi => by
      obtain ⟨cs', hc, ht⟩ := hel i (by omega)
      rw [Yba.cells28] at hc
      obtain ⟨c0, c1, c2, rfl, h0, h1, h2⟩ := cells3 hc
      obtain ⟨y0, y1, y2, n', _, _, t0, t1, t2⟩ := Go.Deep.trod_struct3 Yba.underlying28 ht
      simp only [Yba.cells5, Yba.cells26] at t0 t1 t2
      obtain ⟨z0, e0, _, w0⟩ := DataW.trod_int Yba.underlying5 t0
      obtain ⟨z1, e1, _, w1⟩ := DataW.trod_int Yba.underlying5 t1
      obtain ⟨z2, e2, _, w2⟩ := DataW.trod_int Yba.underlying26 t2
      simp at e0 e1 e2
      subst e0 e1 e2
      obtain ⟨b, off, spot⟩ := a
      have hspot : spot = none := plain (by omega)
      subst hspot
      simp only [Go.WideShapes.add_plain, Nat.add_zero] at h0 h1 h2
      exact ⟨(z0, z1, z2), b, off, rfl, h0, h1, h2, (bounds_u8 w0).1, (bounds_u8 w0).2, (bounds_u8 w1).1, (bounds_u8 w1).2, (bounds_u16 w2).1, (bounds_u16 w2).2⟩
    obtain ⟨f, hff⟩ := Go.Deep.choose_lt key
    refine ⟨fun i => (f i).1, fun i => (f i).2.1, fun i => (f i).2.2, fun i hi => ?_⟩
    obtain ⟨b, off, rfl, rest⟩ := hff i hi
    exact ⟨b, off, rfl, rest⟩

theorem open_four {H : Type} {enc : TypeId × Value → H} {W : World} {r : Reach} {b0 : Nat} {v : Value} {d : DataW H} {p : List MemPlace} (hv : Value.okWide Yba.prog W r b0 23 v) (h : DataW.Trod enc Yba.prog W 0 (fun _ => true) true 23 v d p) :
    ∃ c0 c1 c2 c3, v = .agg #[.int .i64 c0, .int .i64 c1, .int .i64 c2, .int .i64 c3] := by
  simp only [Value.okWide, Yba.underlying23] at hv
  obtain ⟨cs, rfl, hs, _⟩ := hv
  rw [Yba.cells23] at hs
  obtain ⟨fuel, hf⟩ := h
  obtain ⟨xs, m, _, _, _, _, hel⟩ := DataW.trod_array Yba.underlying23 hf
  obtain ⟨l⟩ := cs
  match l, hs with
  | [v0, v1, v2, v3], _ =>
    have g : ∀ i, i < 4 → ∃ y, DataW.trod enc Yba.prog W 0 (fun _ => true) true m 3 (([v0, v1, v2, v3].drop i).take 1) = some y := fun i hi => by
      have := hel i hi
      simp only [Yba.cells3, Nat.mul_one] at this
      have hx : i < xs.length := by omega
      rw [List.getElem?_eq_getElem hx] at this
      exact ⟨_, this⟩
    obtain ⟨y0, t0⟩ := g 0 (by omega)
    obtain ⟨y1, t1⟩ := g 1 (by omega)
    obtain ⟨y2, t2⟩ := g 2 (by omega)
    obtain ⟨y3, t3⟩ := g 3 (by omega)
    obtain ⟨z0, e0, _, _⟩ := DataW.trod_int Yba.underlying3 t0
    obtain ⟨z1, e1, _, _⟩ := DataW.trod_int Yba.underlying3 t1
    obtain ⟨z2, e2, _, _⟩ := DataW.trod_int Yba.underlying3 t2
    obtain ⟨z3, e3, _, _⟩ := DataW.trod_int Yba.underlying3 t3
    simp at e0 e1 e2 e3
    subst e0 e1 e2 e3
    exact ⟨z0, z1, z2, z3, rfl⟩
end Go.Proofs.Ybulkbtyo
