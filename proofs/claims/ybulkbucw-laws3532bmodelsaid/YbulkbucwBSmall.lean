/-
  THE B LAW's SMALL FUNCTIONS: norm, model, in.
-/
import Derived.Test.YbulkbucwRows
import Derived.WalkKit
import Derived.WalkSmall
import Derived.Below
import Derived.Deep.QuietTactic
import Derived.BigQuiet
import Derived.OwnWalk
import Derived.Deep.DeepCutAuto
import Derived.Deep.CutBlock
namespace Go.Proofs.Ybulkbucw
open Go.RowKit

/-- The given ranges, as they lie. -/
def Inp (w : World) (a : Option Addr) (xs : List (Int × Int × Int)) : Prop :=
  ∀ (i : Nat) (x : Int × Int × Int), xs[i]? = some x → ∃ b off, a = some ⟨b, off, none⟩ ∧ w.cell? ⟨b, off + i * 3, none⟩ = some (.int .u16 x.1) ∧ w.cell? ⟨b, off + i * 3 + 1, none⟩ = some (.int .u16 x.2.1) ∧ w.cell? ⟨b, off + i * 3 + 2, none⟩ = some (.int .u8 x.2.2) ∧
    0 ≤ x.1 ∧ x.1 ≤ 65535 ∧ 0 ≤ x.2.1 ∧ x.2.1 ≤ 65535 ∧ 0 ≤ x.2.2 ∧ x.2.2 ≤ 255
theorem Inp.below {w w' : World} {a : Option Addr} {xs : List (Int × Int × Int)} (h : Inp w a xs) (hb : Below w.heap.size w w') : Inp w' a xs := fun i x hx => by
  obtain ⟨b, off, h1, h2, h3, h4, h5⟩ := h i x hx
  have hl := World.block_lt_of_cell? w _ h2
  refine ⟨b, off, h1, ?_, ?_, ?_, h5⟩
  · rw [hb.cell (p := ⟨b, off + i * 3, none⟩) hl]; exact h2
  · rw [hb.cell (p := ⟨b, off + i * 3 + 1, none⟩) hl]; exact h3
  · rw [hb.cell (p := ⟨b, off + i * 3 + 2, none⟩) hl]; exact h4
/-- The range that an input stands for. -/
def loOf (x : Int × Int × Int) (base : Int) : Int := base + x.1 % 600
def hiOf (x : Int × Int × Int) (base : Int) : Int := loOf x base + x.2.1 % 100
def stOf (x : Int × Int × Int) : Int := 1 + x.2.2 % 7
/-- Does the input hold the point? -/
def hit (x : Int × Int × Int) (base c : Int) : Bool := decide (loOf x base ≤ c) && decide (c ≤ hiOf x base) && decide ((c - loOf x base) % stOf x = 0)
theorem loOf_bd {x : Int × Int × Int} {base : Int} : base ≤ loOf x base ∧ loOf x base ≤ base + 599 := by unfold loOf; omega
theorem hiOf_bd {x : Int × Int × Int} {base : Int} : loOf x base ≤ hiOf x base ∧ hiOf x base ≤ loOf x base + 99 := by unfold hiOf; omega
theorem stOf_bd {x : Int × Int × Int} : 1 ≤ stOf x ∧ stOf x ≤ 7 := by unfold stOf; omega

set_option maxRecDepth 100000 in
/-- norm. -/
theorem norm (x0 x1 x2 base : Int) (w : World) (h0 : 0 ≤ x0) (h1 : x0 ≤ 65535) (h2 : 0 ≤ x1) (h3 : x1 ≤ 65535) (h4 : 0 ≤ x2) (h5 : x2 ≤ 255) (hb : base = 0 ∨ base = 65536) :
    Calls Yba.prog 16 #[.agg #[.int .u16 x0, .int .u16 x1, .int .u8 x2], .int .u32 base] w fun e w' =>
      e = .returned (.tuple #[.int .u32 (loOf (x0, x1, x2) base), .int .u32 (hiOf (x0, x1, x2) base), .int .u32 (stOf (x0, x1, x2))]) ∧ w' = w.alloc (.cells #[.int .u16 x0, .int .u16 x1, .int .u8 x2] 74) := by
  have b0 : 0 ≤ base := by omega
  have b1 : base ≤ 65536 := by omega
  clear hb
  go_enter Yba.func16, Yba.ntmps16
  go_wp2
  go_ret3
  unfold hiOf loOf stOf
  exact ⟨rfl, rfl⟩

theorem any_step {α : Type} {xs : List α} {f : α → Bool} {k : Nat} {x : α} (h : (xs.take k).any f = false) (hx : xs[k]? = some x) (hf : f x = false) : (xs.take (k + 1)).any f = false := by
  rw [List.take_add_one, hx, List.any_append, h]
  simp [hf]
theorem any_found {α : Type} {xs : List α} {f : α → Bool} {k : Nat} {x : α} (hx : xs[k]? = some x) (hf : f x = true) : xs.any f = true :=
  List.any_eq_true.2 ⟨x, List.mem_of_getElem? hx, hf⟩

set_option maxRecDepth 100000 in
set_option maxHeartbeats 1000000 in
/-- model: does one of the inputs hold the point? -/
theorem model (a : Option Addr) (cap : Nat) (xs : List (Int × Int × Int)) (base c : Int) (w : World) (hn : xs.length ≤ 300) (hin : Inp w a xs) (hb : base = 0 ∨ base = 65536) (c0 : 0 ≤ c) (c1 : c ≤ 70000) :
    Calls Yba.prog 10 #[.slice a xs.length cap, .int .u32 base, .int .u32 c] w fun e w' => e = .returned (.bool (xs.any fun x => hit x base c)) ∧ Below w.heap.size w w' := by
  have IN : Hid (Inp w a xs) := hin
  have HB : Hid (base = 0 ∨ base = 65536) := hb
  clear hin hb
  go_enter Yba.func10, Yba.ntmps10
  go_wp2_with fail
  go_loopw [14] (fun i wr => ∃ (k : Nat), k ≤ xs.length ∧ i = .int .i64 k ∧ Below w.heap.size w wr ∧ (xs.take k).any (fun x => hit x base c) = false) (fun i _ => xs.length - (intOf i).toNat)
  case atStart => exact ⟨0, Nat.zero_le _, rfl, Below.refl _ _, by simp⟩
  case round =>
    obtain ⟨k, hk, rfl, hB, hA⟩ := hrel
    have BW : Hid (Below w.heap.size w wr) := hB
    have HA : Hid ((xs.take k).any (fun x => hit x base c) = false) := hA
    clear hB hA
    by_cases hlt : k < xs.length
    · obtain ⟨x, hx⟩ : ∃ x, xs[k]? = some x := ⟨xs[k], List.getElem?_eq_getElem hlt⟩
      obtain ⟨b, off, rfl, h0, h1, h2, h3, h4, h5, h6, h7, h8⟩ := IN.out.below BW.out k x hx
      have hb' := World.block_lt_of_cell? wr _ h0
      obtain ⟨x0, x1, x2⟩ := x
      have HX : Hid (xs[k]? = some (x0, x1, x2)) := hx
      clear hx
      dsimp only at h0 h1 h2 h3 h4 h5 h6 h7 h8
      obtain ⟨L, hL⟩ : ∃ L, loOf (x0, x1, x2) base = L := ⟨_, rfl⟩
      obtain ⟨U, hU⟩ : ∃ U, hiOf (x0, x1, x2) base = U := ⟨_, rfl⟩
      obtain ⟨S, hS⟩ : ∃ S, stOf (x0, x1, x2) = S := ⟨_, rfl⟩
      have l1 : 0 ≤ L := by have := HB.out; have := (loOf_bd (x := (x0, x1, x2)) (base := base)).1; omega
      have l2 : L ≤ 66200 := by have := HB.out; have := (loOf_bd (x := (x0, x1, x2)) (base := base)).2; omega
      have l3 : L ≤ U := by rw [← hL, ← hU]; exact hiOf_bd.1
      have l4 : U ≤ 66300 := by have := (hiOf_bd (x := (x0, x1, x2)) (base := base)).2; omega
      have l5 : 1 ≤ S := by rw [← hS]; exact stOf_bd.1
      have l6 : S ≤ 7 := by rw [← hS]; exact stOf_bd.2
      have HH : Hid (hit (x0, x1, x2) base c = (decide (L ≤ c) && decide (c ≤ U) && decide ((c - L) % S = 0))) := by unfold Hid hit; rw [hL, hU, hS]
      go_upto_region 5 with (go_at_call 16; refine (norm x0 x1 x2 base _ (by assumption) (by assumption) (by assumption) (by assumption) (by assumption) (by assumption) HB.out).mono ?_; rintro e w1 ⟨rfl, rfl⟩; rw [hL, hU, hS])
      clear hL hU hS h0 h1 h2 h3 h4 h5 h6 h7 h8
      have BW2 : Hid (Below w.heap.size w ((wr.alloc (.cells #[.int .u16 x0, .int .u16 x1, .int .u8 x2] 74)).alloc (.cells #[.int .u16 x0, .int .u16 x1, .int .u8 x2] 74))) := (BW.out.alloc BW.out.size _).alloc (by have := BW.out.size; simp; omega) _
      generalize ((wr.alloc (.cells #[.int .u16 x0, .int .u16 x1, .int .u8 x2] 74)).alloc (.cells #[.int .u16 x0, .int .u16 x1, .int .u8 x2] 74)) = w2 at BW2 ⊢
      by_cases d1 : L ≤ c
      · by_cases d2 : c ≤ U
        · have s0 : (S == 0) = false := by rw [beq_eq_false_iff_ne]; omega
          have n0 : ¬ S = 0 := by omega
          by_cases d3 : (c - L) % S = 0
          · go_wp2_with fail
            go_ret
            exact ⟨by rw [any_found HX.out (by rw [HH.out]; simp [d1, d2, d3])]; rfl, BW2.out⟩
          · have d3' : ((c - L) % S == 0) = false := by simpa using d3
            go_wp2_with fail
            go_roundw
            case rel => exact ⟨k + 1, by omega, by go_num, BW2.out, any_step HA.out HX.out (by rw [HH.out]; simp [d3])⟩
            case measure => simp [intOf]; omega
        · go_wp2_with fail
          go_roundw
          case rel => exact ⟨k + 1, by omega, by go_num, BW2.out, any_step HA.out HX.out (by rw [HH.out]; simp [d2])⟩
          case measure => simp [intOf]; omega
      · go_wp2_with fail
        go_roundw
        case rel => exact ⟨k + 1, by omega, by go_num, BW2.out, any_step HA.out HX.out (by rw [HH.out]; simp [d1])⟩
        case measure => simp [intOf]; omega
    · go_wp2_with fail
      go_ret
      have h := HA.out
      rw [List.take_of_length_le (by omega)] at h
      exact ⟨by rw [h]; rfl, BW.out⟩

/-- A set of ranges, as it lies. -/
def Rng (w : World) (a : Option Addr) (ys : List (Int × Int)) : Prop :=
  ∀ (i : Nat) (y : Int × Int), ys[i]? = some y → ∃ b off, a = some ⟨b, off, none⟩ ∧ w.cell? ⟨b, off + i * 2, none⟩ = some (.int .i32 y.1) ∧ w.cell? ⟨b, off + i * 2 + 1, none⟩ = some (.int .i32 y.2)
theorem Rng.below {w w' : World} {a : Option Addr} {ys : List (Int × Int)} {B : Nat} (h : Rng w a ys) (hb : Below B w w') (hl : ∀ b off, a = some ⟨b, off, none⟩ → b < B) : Rng w' a ys := fun i y hy => by
  obtain ⟨b, off, h1, h2, h3⟩ := h i y hy
  refine ⟨b, off, h1, ?_, ?_⟩
  · rw [hb.cell (p := ⟨b, off + i * 2, none⟩) (hl b off h1)]; exact h2
  · rw [hb.cell (p := ⟨b, off + i * 2 + 1, none⟩) (hl b off h1)]; exact h3
theorem Rng.later {w w' : World} {a : Option Addr} {ys : List (Int × Int)} (h : Rng w a ys) (hb : Below w.heap.size w w') : Rng w' a ys := fun i y hy => by
  obtain ⟨b, off, h1, h2, h3⟩ := h i y hy
  have hl := World.block_lt_of_cell? w _ h2
  refine ⟨b, off, h1, ?_, ?_⟩
  · rw [hb.cell (p := ⟨b, off + i * 2, none⟩) hl]; exact h2
  · rw [hb.cell (p := ⟨b, off + i * 2 + 1, none⟩) hl]; exact h3
/-- Ranges within the two windows. -/
def InWin (y : Int × Int) : Prop := y.1 ≤ y.2 ∧ ((0 ≤ y.1 ∧ y.2 < 800) ∨ (65536 ≤ y.1 ∧ y.2 < 66336))
/-- Ascending, neither overlapping nor touching, within the windows. -/
def Well (ys : List (Int × Int)) : Prop := ∀ (i : Nat) (y : Int × Int), ys[i]? = some y → InWin y ∧ ∀ z, ys[i - 1]? = some z → 0 < i → z.2 + 1 < y.1
def within (y : Int × Int) (c : Int) : Bool := decide (y.1 ≤ c) && decide (c ≤ y.2)
theorem below_drewN {B : Nat} {w w' : World} (h : Below B w w') (q : Nat) : Below B w (w'.drewN q) := ⟨h.os, h.tape, h.output, h.size, h.block⟩

set_option maxRecDepth 100000 in
set_option maxHeartbeats 1000000 in
/-- in: does one of the ranges hold the point? -/
theorem inSet (a : Option Addr) (cap : Nat) (ys : List (Int × Int)) (c : Int) (w : World) (hn : ys.length ≤ 100000) (hin : Rng w a ys) :
    Calls Yba.prog 9 #[.slice a ys.length cap, .int .i32 c] w fun e w' => e = .returned (.bool (ys.any fun y => within y c)) ∧ Below w.heap.size w w' := by
  have IN : Hid (Rng w a ys) := hin
  clear hin
  go_enter Yba.func9, Yba.ntmps9
  go_wp2_with fail
  go_loopw [9] (fun i wr => ∃ (k : Nat), k ≤ ys.length ∧ i = .int .i64 k ∧ Below w.heap.size w wr ∧ (ys.take k).any (fun y => within y c) = false) (fun i _ => ys.length - (intOf i).toNat)
  case atStart => exact ⟨0, Nat.zero_le _, rfl, Below.refl _ _, by simp⟩
  case round =>
    obtain ⟨k, hk, rfl, hB, hA⟩ := hrel
    have BW : Hid (Below w.heap.size w wr) := hB
    have HA : Hid ((ys.take k).any (fun y => within y c) = false) := hA
    clear hB hA
    by_cases hlt : k < ys.length
    · obtain ⟨y, hy⟩ : ∃ y, ys[k]? = some y := ⟨ys[k], List.getElem?_eq_getElem hlt⟩
      obtain ⟨b, off, rfl, h0, h1⟩ := IN.out.later BW.out k y hy
      have hb' := World.block_lt_of_cell? wr _ h0
      obtain ⟨L, U⟩ := y
      have HX : Hid (ys[k]? = some (L, U)) := hy
      clear hy
      dsimp only at h0 h1
      have BW2 : Hid (Below w.heap.size w (wr.alloc (.cells #[.int .i32 L, .int .i32 U] 38))) := BW.out.alloc BW.out.size _
      by_cases d1 : L ≤ c
      · by_cases d2 : c ≤ U
        · go_wp2_with fail
          go_ret
          exact ⟨by rw [any_found HX.out (by simp [within, d1, d2])]; rfl, BW2.out⟩
        · go_wp2_with fail
          go_roundw
          case rel => exact ⟨k + 1, by omega, by go_num, BW2.out, any_step HA.out HX.out (by simp [within, d2])⟩
          case measure => simp [intOf]; omega
      · go_wp2_with fail
        go_roundw
        case rel => exact ⟨k + 1, by omega, by go_num, BW2.out, any_step HA.out HX.out (by simp [within, d1])⟩
        case measure => simp [intOf]; omega
    · go_wp2_with fail
      go_ret
      have h := HA.out
      rw [List.take_of_length_le (by omega)] at h
      exact ⟨by rw [h]; rfl, BW.out⟩

set_option maxRecDepth 100000 in
set_option maxHeartbeats 1000000 in
/-- well. -/
theorem wellSet (a : Option Addr) (cap : Nat) (ys : List (Int × Int)) (w : World) (hn : ys.length ≤ 100000) (hin : Rng w a ys) (hw : Well ys) :
    Calls Yba.prog 8 #[.slice a ys.length cap] w fun e w' => e = .returned (.bool true) ∧ Below w.heap.size w w' := by
  have IN : Hid (Rng w a ys) := hin
  have HW : Hid (Well ys) := hw
  clear hin hw
  go_enter Yba.func8, Yba.ntmps8
  go_wp2_with fail
  go_loopw [9] (fun i wr => ∃ (k : Nat), k ≤ ys.length ∧ i = .int .i64 k ∧ Below w.heap.size w wr) (fun i _ => ys.length - (intOf i).toNat)
  case atStart => exact ⟨0, Nat.zero_le _, rfl, Below.refl _ _⟩
  case round =>
    obtain ⟨k, hk, rfl, hB⟩ := hrel
    have BW : Hid (Below w.heap.size w wr) := hB
    clear hB
    by_cases hlt : k < ys.length
    · obtain ⟨y, hy⟩ : ∃ y, ys[k]? = some y := ⟨ys[k], List.getElem?_eq_getElem hlt⟩
      obtain ⟨b, off, rfl, h0, h1⟩ := IN.out.later BW.out k y hy
      have hb' := World.block_lt_of_cell? wr _ h0
      obtain ⟨⟨v1, v2⟩, v3⟩ := HW.out k y hy
      obtain ⟨L, U⟩ := y
      have HX : Hid (ys[k]? = some (L, U)) := hy
      clear hy
      dsimp only at h0 h1 v1 v2 v3
      have BW2 : Hid (Below w.heap.size w (wr.alloc (.cells #[.int .i32 L, .int .i32 U] 38))) := BW.out.alloc BW.out.size _
      have u0 : 0 ≤ L := by omega
      have u1 : U ≤ 66336 := by omega
      have u2 : ¬ U < L := by omega
      have V3 : Hid (∀ z : Int × Int, ys[k - 1]? = some z → 0 < k → z.2 + 1 < L) := v3
      clear v3
      rcases v2 with ⟨e1, e2⟩ | ⟨e1, e2⟩
      · have e3 : ¬ 65536 ≤ L := by omega
        go_upto_region 8 with (fail)
        clear h0 h1
        generalize hw2 : wr.alloc (.cells #[.int .i32 L, .int .i32 U] 38) = w2 at BW2 ⊢
        have r0 : w2.cell? ⟨wr.heap.size, 0, none⟩ = some (.int .i32 L) := by rw [← hw2]; simp
        have RW : Hid (Rng w2 (some ⟨b, off, none⟩) ys) := IN.out.later BW2.out
        clear hw2
        by_cases hz : k = 0
        · have hz' : ¬ (0 : Int) < (k : Int) := by omega
          go_quiet (fail)
          go_wp2_with fail
          go_roundw
          case rel => exact ⟨k + 1, by omega, by go_num, below_drewN BW2.out _⟩
          case measure => simp [intOf]; omega
        · obtain ⟨z, hzz⟩ : ∃ z, ys[k - 1]? = some z := ⟨ys[k - 1], List.getElem?_eq_getElem (by omega)⟩
          have v4 := V3.out z hzz (by omega)
          obtain ⟨⟨v5, v6⟩, _⟩ := HW.out (k - 1) z hzz
          obtain ⟨b', off', e, _, g1⟩ := RW.out (k - 1) z hzz
          obtain ⟨zl, zu⟩ := z
          cases e
          dsimp only at v4 v5 v6 g1
          have hz' : (0 : Int) < (k : Int) := by omega
          have hz2 : 0 < k := by omega
          have hz1 : (k : Int) - 1 = ((k - 1 : Nat) : Int) := by omega
          have k1 : (0 : Int) ≤ ((k - 1 : Nat) : Int) := by omega
          have k2 : ((k - 1 : Nat) : Int) < (ys.length : Int) := by omega
          have z0 : 0 ≤ zu := by omega
          have z1 : zu ≤ 66336 := by omega
          have z2 : ¬ L ≤ zu + 1 := by omega
          generalize k - 1 = k' at hz1 k1 k2 g1
          clear hzz V3
          go_quiet (fail)
          go_wp2_with fail
          go_roundw
          case rel => exact ⟨k + 1, by omega, by go_num, below_drewN BW2.out _⟩
          case measure => simp [intOf]; omega
      · have e3 : ¬ U < 800 := by omega
        go_upto_region 8 with (fail)
        clear h0 h1
        generalize hw2 : wr.alloc (.cells #[.int .i32 L, .int .i32 U] 38) = w2 at BW2 ⊢
        have r0 : w2.cell? ⟨wr.heap.size, 0, none⟩ = some (.int .i32 L) := by rw [← hw2]; simp
        have RW : Hid (Rng w2 (some ⟨b, off, none⟩) ys) := IN.out.later BW2.out
        clear hw2
        by_cases hz : k = 0
        · have hz' : ¬ (0 : Int) < (k : Int) := by omega
          go_quiet (fail)
          go_wp2_with fail
          go_roundw
          case rel => exact ⟨k + 1, by omega, by go_num, below_drewN BW2.out _⟩
          case measure => simp [intOf]; omega
        · obtain ⟨z, hzz⟩ : ∃ z, ys[k - 1]? = some z := ⟨ys[k - 1], List.getElem?_eq_getElem (by omega)⟩
          have v4 := V3.out z hzz (by omega)
          obtain ⟨⟨v5, v6⟩, _⟩ := HW.out (k - 1) z hzz
          obtain ⟨b', off', e, _, g1⟩ := RW.out (k - 1) z hzz
          obtain ⟨zl, zu⟩ := z
          cases e
          dsimp only at v4 v5 v6 g1
          have hz' : (0 : Int) < (k : Int) := by omega
          have hz2 : 0 < k := by omega
          have hz1 : (k : Int) - 1 = ((k - 1 : Nat) : Int) := by omega
          have k1 : (0 : Int) ≤ ((k - 1 : Nat) : Int) := by omega
          have k2 : ((k - 1 : Nat) : Int) < (ys.length : Int) := by omega
          have z0 : 0 ≤ zu := by omega
          have z1 : zu ≤ 66336 := by omega
          have z2 : ¬ L ≤ zu + 1 := by omega
          generalize k - 1 = k' at hz1 k1 k2 g1
          clear hzz V3
          go_quiet (fail)
          go_wp2_with fail
          go_roundw
          case rel => exact ⟨k + 1, by omega, by go_num, below_drewN BW2.out _⟩
          case measure => simp [intOf]; omega
    · go_wp2_with fail
      go_ret
      exact ⟨rfl, BW.out⟩
end Go.Proofs.Ybulkbucw
