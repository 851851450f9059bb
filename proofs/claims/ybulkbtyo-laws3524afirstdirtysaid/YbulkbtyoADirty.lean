/-
  dirtyRead (function 6): THE WALK.
-/
import Derived.Test.YbulkbtyoASmall
namespace Go.Proofs.Ybulkbtyo
open Go.RowKit Go.Sort

/-- The scan as it lies in memory: its struct at block S; the rows of ops, txn and src at O, T, R; the commits at C. -/
structure Scan (w : World) (S O T R C n : Nat) (K t r c : Nat → Int) : Prop where
  s0 : w.cell? ⟨S, 0, none⟩ = some (.slice (some ⟨O, 0, none⟩) n n)
  s1 : w.cell? ⟨S, 1, none⟩ = some (.slice (some ⟨T, 0, none⟩) n n)
  s7 : w.cell? ⟨S, 7, none⟩ = some (.slice (some ⟨C, 0, none⟩) 4 4)
  s8 : w.cell? ⟨S, 8, none⟩ = some (.slice (some ⟨C, 0, none⟩) 4 4)
  s10 : w.cell? ⟨S, 10, none⟩ = some (.slice (some ⟨R, 0, none⟩) n n)
  o0 : ∀ i, i < n → w.cell? ⟨O, i * 4, none⟩ = some (.int .u8 (K i))
  o1 : ∀ i, i < n → w.cell? ⟨O, i * 4 + 1, none⟩ = some (.bool false)
  o2 : ∀ i, i < n → w.cell? ⟨O, i * 4 + 2, none⟩ = some (.int .i64 (t i))
  o3 : ∀ i, i < n → w.cell? ⟨O, i * 4 + 3, none⟩ = some (.int .i64 0)
  tt : ∀ i, i < n → w.cell? ⟨T, i, none⟩ = some (.int .i64 (t i))
  rr : ∀ i, i < n → w.cell? ⟨R, i, none⟩ = some (.int .i64 (r i))
  cc : ∀ j, j < 4 → w.cell? ⟨C, j, none⟩ = some (.int .i64 (c j))
theorem keep {w w' : World} {B : Nat} {a : Addr} {v : Value} (hb : Below B w w') (hB : B = w.heap.size) (h : w.cell? a = some v) : w'.cell? a = some v := by
  rw [hb.cell (by have := World.block_lt_of_cell? w a h; omega), h]
theorem Scan.below {w w' : World} {S O T R C n : Nat} {K t r c : Nat → Int} (h : Scan w S O T R C n K t r c) (hb : Below w.heap.size w w') : Scan w' S O T R C n K t r c :=
  ⟨keep hb rfl h.s0, keep hb rfl h.s1, keep hb rfl h.s7, keep hb rfl h.s8, keep hb rfl h.s10, fun i hi => keep hb rfl (h.o0 i hi), fun i hi => keep hb rfl (h.o1 i hi), fun i hi => keep hb rfl (h.o2 i hi), fun i hi => keep hb rfl (h.o3 i hi),
    fun i hi => keep hb rfl (h.tt i hi), fun i hi => keep hb rfl (h.rr i hi), fun j hj => keep hb rfl (h.cc j hj)⟩
/-- Read k is dirty. -/
def dirtyB (K t r c : Nat → Int) (k : Nat) : Bool := decide (K k = 1 ∧ 0 ≤ r k ∧ ¬ t (r k).toNat = t k ∧ ¬ c (t (r k).toNat).toNat < k)
/-- What dirtyRead answers. -/
def Told (w w' : World) (n : Nat) (K t r c : Nat → Int) (v : Value) : Prop :=
  ((∀ i, i < n → dirtyB K t r c i = false) ∧ v = .slice none 0 0) ∨
  ∃ k g, k < n ∧ dirtyB K t r c k = true ∧ (∀ i, i < k → dirtyB K t r c i = false) ∧ v = .slice (some ⟨g, 0, none⟩) 2 2 ∧ w.heap.size ≤ g ∧ w'.cell? ⟨g, 0, none⟩ = some (.int .i64 (min (r k) k)) ∧ w'.cell? ⟨g, 1, none⟩ = some (.int .i64 (max (r k) k))

theorem below_next {P : Nat → Bool} {k : Nat} (h : ∀ i, i < k → P i = false) (hk : P k = false) : ∀ i, i < k + 1 → P i = false := fun i hi => by
  by_cases e : i = k
  · rw [e]; exact hk
  · exact h i (by omega)

theorem below_later {w wr : World} (hb : Below w.heap.size w wr) (o o' : Obj) (m : Nat) : Below w.heap.size w (((wr.alloc o).drewN m).alloc o') :=
  (below_drewN (hb.alloc hb.size o) m).alloc (by have := hb.size; simp; omega) o'
theorem below_later2 {w wr : World} (hb : Below w.heap.size w wr) (o o' o'' : Obj) (m : Nat) : Below w.heap.size w ((((wr.alloc o).drewN m).alloc o').alloc o'') :=
  (below_later hb o o' m).alloc (by have := hb.size; simp; omega) o''
theorem newInstAt (g : Nat) (x y : Int) (W : World) (hg : W.heap.size = g) (hne : x ≠ y) :
    Calls Yba.prog 13 #[.slice (some ⟨g, 0, none⟩) 2 2] (W.alloc (.cells #[.int .i64 x, .int .i64 y] 3)) fun e w' => e = .returned (.slice (some ⟨g, 0, none⟩) 2 2) ∧ Inst (W.alloc (.cells #[.int .i64 x, .int .i64 y] 3)) w' g x y := by
  subst hg
  refine newInst _ x y _ (by simp) ?_ hne
  intro j hj
  have : j = 0 ∨ j = 1 := by simp at hj; omega
  rcases this with rfl | rfl <;> simp
theorem dirty_no1 {K t r c : Nat → Int} {k : Nat} {x : Int} (h : K k = x) (hx : ¬ x = 1) : dirtyB K t r c k = false := by simp [dirtyB, h, hx]
theorem dirty_no2 {K t r c : Nat → Int} {k : Nat} {x : Int} (h : r k = x) (hx : x < 0) : dirtyB K t r c k = false := by
  unfold dirtyB; rw [h]; simp; intros; omega
theorem dirty_no3 {K t r c : Nat → Int} {k j : Nat} {y : Int} (h : r k = (j : Int)) (h1 : t j = y) (h2 : t k = y) : dirtyB K t r c k = false := by
  unfold dirtyB; rw [h, Int.toNat_natCast, h1, h2]; simp
theorem dirty_no4 {K t r c : Nat → Int} {k j : Nat} {y z : Int} (h : r k = (j : Int)) (h1 : t j = y) (h2 : c y.toNat = z) (h3 : z < k) : dirtyB K t r c k = false := by
  unfold dirtyB; rw [h, Int.toNat_natCast, h1, h2]; simp [h3]
theorem dirty_yes {K t r c : Nat → Int} {k j : Nat} {y z u : Int} (h0 : K k = 1) (h : r k = (j : Int)) (h1 : t j = y) (h4 : t k = u) (h5 : ¬ y = u) (h2 : c y.toNat = z) (h3 : ¬ z < k) : dirtyB K t r c k = true := by
  unfold dirtyB; rw [h0, h, Int.toNat_natCast, h1, h2, h4]; simp [h3, h5]

set_option maxRecDepth 100000 in
set_option maxHeartbeats 1000000 in
theorem dirty (S O T R C n : Nat) (K t r c : Nat → Int) (w : World) (hn : n ≤ 1024) (sc : Scan w S O T R C n K t r c) (ht : ∀ i, i < n → 0 ≤ t i ∧ t i ≤ 3) (hr : ∀ i, i < n → -1 ≤ r i ∧ r i < n) :
    Calls Yba.prog 6 #[.pointer (some ⟨S, 0, none⟩)] w fun e w' => ∃ v, e = .returned v ∧ Below w.heap.size w w' ∧ Told w w' n K t r c v := by
  have SC : Hid (Scan w S O T R C n K t r c) := sc
  have HT : Hid (∀ i, i < n → 0 ≤ t i ∧ t i ≤ 3) := ht
  have HR : Hid (∀ i, i < n → -1 ≤ r i ∧ r i < n) := hr
  have e0 := sc.s0
  clear sc ht hr
  go_enter Yba.func6, Yba.ntmps6
  go_wp2
  clear e0
  go_loopw [11] (fun i wr => ∃ k : Nat, k ≤ n ∧ i = .int .i64 k ∧ Below w.heap.size w wr ∧ ∀ i, i < k → dirtyB K t r c i = false) (fun i _ => n - (intOf i).toNat)
  case atStart => exact ⟨0, Nat.zero_le _, rfl, Below.refl _ _, fun i hi => by omega⟩
  case round =>
    obtain ⟨k, hk, rfl, hb, hd⟩ := hrel
    have HB : Hid (Below w.heap.size w wr) := hb
    have HDt : Hid (∀ i, i < k → dirtyB K t r c i = false) := hd
    have sc := SC.out.below hb
    clear hb hd
    by_cases hlt : k < n
    · have lS := World.block_lt_of_cell? wr _ sc.s0
      have q0 := sc.o0 k hlt
      have q1 := sc.o1 k hlt
      have q2 := sc.o2 k hlt
      have q3 := sc.o3 k hlt
      have lO := World.block_lt_of_cell? wr _ q0
      have q4 := sc.tt k hlt
      have q5 := sc.rr k hlt
      have lT := World.block_lt_of_cell? wr _ q4
      have lR := World.block_lt_of_cell? wr _ q5
      have e0 := sc.s0; have e1 := sc.s1; have e7 := sc.s7; have e8 := sc.s8; have e10 := sc.s10
      obtain ⟨r0, r1⟩ := HR.out k hlt
      obtain ⟨ck, hck⟩ : ∃ x, K k = x := ⟨_, rfl⟩
      obtain ⟨tk, htk⟩ : ∃ x, t k = x := ⟨_, rfl⟩
      obtain ⟨rk, hrk⟩ : ∃ x, r k = x := ⟨_, rfl⟩
      rw [hck] at q0
      rw [htk] at q2 q4
      rw [hrk] at q5 r0 r1
      have CK : Hid (K k = ck) := hck
      have TK : Hid (t k = tk) := htk
      have RK : Hid (r k = rk) := hrk
      clear hck htk hrk
      have SCR : Hid (Scan wr S O T R C n K t r c) := sc
      clear sc
      by_cases a1 : ck = 1
      · subst a1
        by_cases a2 : rk < 0
        · have HN : Hid (dirtyB K t r c k = false) := dirty_no2 RK.out a2
          go_wp2
          go_roundw
          case rel => exact ⟨k + 1, by omega, by go_num, HB.out.alloc HB.out.size _, below_next HDt.out HN.out⟩
          case measure => simp [intOf]; omega
        · obtain ⟨j, rfl⟩ := Int.eq_ofNat_of_zero_le (show 0 ≤ rk by omega)
          have hj : j < n := by omega
          obtain ⟨t0, t1⟩ := HT.out j hj
          have q6 := SCR.out.tt j hj
          obtain ⟨tj, htj⟩ : ∃ x, t j = x := ⟨_, rfl⟩
          rw [htj] at q6 t0 t1
          have TJ : Hid (t j = tj) := htj
          clear htj
          by_cases a3 : tj = tk
          · subst a3
            have HN : Hid (dirtyB K t r c k = false) := dirty_no3 RK.out TJ.out TK.out
            go_wp2_with fail
            go_quiet (fail)
            go_wp2_with fail
            go_roundw
            case rel => exact ⟨k + 1, by omega, by go_num, below_drewN (HB.out.alloc HB.out.size _) _, below_next HDt.out HN.out⟩
            case measure => simp [intOf]; omega
          · have a3' : (tj == tk) = false := by simpa using a3
            obtain ⟨cz, hcz⟩ : ∃ x, c tj.toNat = x := ⟨_, rfl⟩
            have q7 := SCR.out.cc tj.toNat (by omega)
            rw [hcz] at q7
            have lC := World.block_lt_of_cell? wr _ q7
            have CZ : Hid (c tj.toNat = cz) := hcz
            clear hcz
            by_cases a4 : cz < k
            · have HN : Hid (dirtyB K t r c k = false) := dirty_no4 RK.out TJ.out CZ.out a4
              have a4' : decide (cz < (k : Int)) = true := decide_eq_true a4
              go_wp2_with fail
              go_quiet (fail)
              go_wp2_with fail
              refine (committed C _ tj k cz _ ?_ t0 t1 ?_).mono ?_
              · show C < (World.alloc wr _).heap.size
                simp; omega
              · show (World.alloc wr _).cell? _ = _
                rw [World.cell?_alloc_lt _ _ _ lC]; exact q7
              rintro e w2 ⟨rfl, o, rfl⟩
              go_wp2_with fail
              go_roundw
              case rel => exact ⟨k + 1, by omega, by go_num, below_later HB.out _ _ _, below_next HDt.out HN.out⟩
              case measure => simp [intOf]; omega
            · have HN : Hid (dirtyB K t r c k = true) := dirty_yes CK.out RK.out TJ.out TK.out a3 CZ.out a4
              have a4' : decide (cz < (k : Int)) = false := decide_eq_false a4
              go_wp2_with fail
              go_quiet (fail)
              go_wp2_with fail
              refine (committed C _ tj k cz _ ?_ t0 t1 ?_).mono ?_
              · show C < (World.alloc wr _).heap.size
                simp; omega
              · show (World.alloc wr _).cell? _ = _
                rw [World.cell?_alloc_lt _ _ _ lC]; exact q7
              rintro e w2 ⟨rfl, o, rfl⟩
              go_wp2_with fail
              refine (newInstAt (wr.heap.size + 1 + 1) j k _ (by simp) (by
                intro e
                have e' : j = k := by omega
                subst e'
                exact a3 (TJ.out.symm.trans TK.out))).mono ?_
              rintro e w3 ⟨rfl, I⟩
              go_wp2_with fail
              go_ret
              refine ⟨_, rfl, ?_, .inr ⟨k, wr.heap.size + 1 + 1, hlt, HN.out, HDt.out, rfl, ?_, ?_, ?_⟩⟩
              · have hs := HB.out.size
                exact (below_later2 HB.out _ _ _ _).trans (I.below.mono (by omega))
              · have hs := HB.out.size
                omega
              · rw [RK.out]; exact I.lo
              · rw [RK.out]; exact I.hi
      · have a1' : (ck == 1) = false := by simpa using a1
        have HN : Hid (dirtyB K t r c k = false) := dirty_no1 CK.out a1
        go_wp2
        go_roundw
        case rel => exact ⟨k + 1, by omega, by go_num, HB.out.alloc HB.out.size _, below_next HDt.out HN.out⟩
        case measure => simp [intOf]; omega
    · go_wp2
      go_ret
      exact ⟨_, rfl, HB.out, .inl ⟨fun i hi => HDt.out i (by omega), rfl⟩⟩
end Go.Proofs.Ybulkbtyo
