/-
  LawS3524CModel: THE WALK.
-/
import Derived.Test.YbulkbtyoCWalks
import Derived.Lib.SmallJoins
namespace Go.Proofs.Ybulkbtyo
open Go.RowKit

theorem IsRow.below {k : IntKind} {w w' : World} {a : Option Addr} {len cap : Nat} {zs : List Int} (h : IsRow k w a len cap zs) (hb : Below w.heap.size w w') : IsRow k w' a len cap zs := by
  rcases h with h | ⟨x, rfl, h1, h2, h3, h4, h5⟩
  · exact .inl h
  · refine .inr ⟨x, rfl, h1, h2, h3, fun i hi => ?_, h5⟩
    have := h4 i hi
    rw [hb.cell (World.block_lt_of_cell? w _ this), this]

/-- A row of ints that the call itself has made: its block, its numbers. -/
def Mine (w : World) (g : Nat) (p : List Int) : Prop := Reads w g p ∧ g < w.heap.size
theorem Mine.below {w w' : World} {g : Nat} {p : List Int} (h : Mine w g p) (hb : Below w.heap.size w w') : Mine w' g p :=
  ⟨fun j v hv => by rw [hb.cell (p := ⟨g, j, none⟩) h.2]; exact h.1 j v hv, Nat.lt_of_lt_of_le h.2 hb.size⟩
theorem Mine.drewN {w : World} {g : Nat} {p : List Int} (h : Mine w g p) (m : Nat) : Mine (w.drewN m) g p := h

/-- What append has made: the block and the numbers. -/
theorem mine_of_own {w : World} {B n : Nat} {v : Value} {p : List Int} (h : w.ownsRow B 3 1 v n (p.map (Value.int .i64))) (hn : 0 < n) : ∃ g cap, v = .slice (some ⟨g, 0, none⟩) n cap ∧ B ≤ g ∧ p.length = n ∧ Mine w g p := by
  obtain ⟨g, cap, rfl⟩ := Go.Joins.ownsRow_form h hn
  have hl : p.length = n := by have := h.1; simpa using this
  have hb := h.lt g rfl
  refine ⟨g, cap, rfl, hb.1, hl, fun j v hv => ?_, hb.2⟩
  have := h.cells (g := g) rfl j (.int .i64 v) (by simp [hv])
  rw [Addr.add_lit] at this
  simpa using this

/-- What the walk keeps of a clone: numbers of its own; nothing old has turned. -/
def Cloned (w w1 : World) (v1 : Value) (n : Nat) (p : List Int) : Prop := w1.ownsRow w.heap.size 3 1 v1 n (p.map (Value.int .i64)) ∧ Below w.heap.size w w1
theorem clone7H (a : Option Addr) (len cap : Nat) (zs : List Int) (w : World) (h : Hid (IsRow .i64 w a len cap zs)) (hl : len ≤ 1024) :
    Calls Yba.prog 7 #[.slice a len cap] w fun e w' => ∃ v' p, e = .returned v' ∧ Cloned w w' v' len p :=
  (clone7 a len cap zs w h.out hl).mono fun _ _ ⟨v', h1, h2, h3⟩ => ⟨v', zs.take len, h1, h2, h3⟩
/-- What the walk keeps of the appended slice. -/
structure Grew (w w2 : World) (g n : Nat) (p : List Int) (x : Int) : Prop where
  mine : Mine w2 g (p ++ [x])
  len : p.length = n
  base : w.heap.size ≤ g
  below : Below w.heap.size w w2
theorem appended {w w1 w2 : World} {n : Nat} {v1 v2 : Value} {p : List Int} {x : Int} {o : Obj} (H1 : Cloned w w1 v1 n p) (hown : w2.ownsRow w.heap.size 3 1 v2 (n + 1) (p.map (Value.int .i64) ++ [.int .i64 x])) (hg : (w1.alloc o).grownBy w2 v1.ownBlock) :
    ∃ g cap, v2 = .slice (some ⟨g, 0, none⟩) (n + 1) cap ∧ Grew w w2 g n p x := by
  have e : p.map (Value.int .i64) ++ [.int .i64 x] = (p ++ [x]).map (Value.int .i64) := by simp
  rw [e] at hown
  obtain ⟨g, cap, h1, h2, h3, h4⟩ := mine_of_own hown (by omega)
  refine ⟨g, cap, h1, h4, by simpa using h3, h2, ?_⟩
  have hs := H1.2.size
  exact (H1.2.alloc hs _).grown hg (by simp; omega) (fun k hk => (H1.1.lt k hk).1)
theorem Grew.step {w w2 w3 : World} {g n : Nat} {p : List Int} {x : Int} (h : Grew w w2 g n p x) (hb : Below w2.heap.size w2 w3) : Grew w w3 g n p x :=
  ⟨h.mine.below hb, h.len, h.base, h.below.trans (hb.mono h.below.size)⟩
theorem Grew.draw {w w2 : World} {g n : Nat} {p : List Int} {x : Int} (h : Grew w w2 g n p x) (m : Nat) : Grew w (w2.drewN m) g n p x := ⟨h.mine, h.len, h.base, below_drewN h.below m⟩
theorem Grew.plen {w w2 : World} {g n : Nat} {p : List Int} {x : Int} (h : Grew w w2 g n p x) : (p ++ [x]).length = n + 1 := by simp [h.len]
theorem Grew.last {w w2 : World} {g n : Nat} {p : List Int} {x : Int} (h : Grew w w2 g n p x) : w2.cell? ⟨g, n, none⟩ = some (.int .i64 x) := h.mine.1 n x (by simp [← h.len])

theorem clone8H {w w2 : World} {g n c : Nat} {p : List Int} {x : Int} (h : Grew w w2 g n p x) (hn : n ≤ 1024) :
    Calls Yba.prog 8 #[.slice (some ⟨g, 0, none⟩) (n + 1) c] w2 fun e w' => ∃ g' c', e = .returned (.slice (some ⟨g', 0, none⟩) (n + 1) c') ∧ Mine w' g' (p ++ [x]) ∧ Below w2.heap.size w2 w' := by
  have hl := h.plen
  have := clone8 g c (p ++ [x]) w2 (by omega) h.mine.1
  rw [hl] at this
  refine this.mono ?_
  rintro e w' ⟨v', rfl, ho, hb⟩
  obtain ⟨g', c', rfl, _, _, hm⟩ := mine_of_own ho (by omega)
  exact ⟨g', c', rfl, hm, hb⟩
theorem equalH {w w2 : World} {g n c g' c' : Nat} {p : List Int} {x : Int} (h : Grew w w2 g n p x) (hm : Mine w2 g' (p ++ [x])) (hn : n ≤ 1024) :
    Calls Yba.prog 11 #[.slice (some ⟨g, 0, none⟩) (n + 1) c, .slice (some ⟨g', 0, none⟩) (n + 1) c'] w2 fun e w' => e = .returned (.bool true) ∧ ∃ m, w' = w2.drewN m := by
  have hl := h.plen
  have := sequal g g' c c' (p ++ [x]) w2 (by omega) h.mine.1 hm.1
  rw [hl] at this
  exact this
theorem lessH {w w2 w0 : World} {g n c h m d : Nat} {p q : List Int} {x y : Int} (A : Grew w w2 g n p x) (B : Grew w0 w2 h m q y) (hn : n ≤ 1024) (hm : m ≤ 1024) :
    Calls Yba.prog 10 #[.slice (some ⟨g, 0, none⟩) (n + 1) c, .slice (some ⟨h, 0, none⟩) (m + 1) d] w2 fun e w' => e = .returned (.bool (lessL (p ++ [x]) (q ++ [y]))) ∧ ∃ m, w' = w2.drewN m := by
  have h1 := A.plen
  have h2 := B.plen
  have := sless g h c d (p ++ [x]) (q ++ [y]) w2 (by omega) (by omega) A.mine.1 B.mine.1
  rw [h1, h2] at this
  exact this
/-- What 'before' answers. -/
def wantB (p q : List Int) (x y : Int) : Bool := if x = y then lessL (p ++ [x]) (q ++ [y]) else decide (x < y)
theorem beforeH {w w2 w0 : World} {g n c h m d : Nat} {p q : List Int} {x y : Int} (A : Grew w w2 g n p x) (B : Grew w0 w2 h m q y) (hn : n ≤ 1024) (hm : m ≤ 1024) :
    Calls Yba.prog 9 #[.slice (some ⟨g, 0, none⟩) (n + 1) c, .slice (some ⟨h, 0, none⟩) (m + 1) d] w2 fun e w' => e = .returned (.bool (wantB p q x y)) ∧ ∃ m, w' = w2.drewN m := by
  unfold wantB
  by_cases e : x = y
  · subst e
    rw [if_pos rfl]
    exact before_eq g h c d n m x (p ++ [x]) (q ++ [x]) w2 hn hm A.last B.last A.plen B.plen A.mine.1 B.mine.1
  · rw [if_neg e]
    exact before_ne g h c d n m x y w2 (by omega) (by omega) A.last B.last e

set_option maxHeartbeats 1000000 in
theorem cmodel (a0 : Option Addr) (len0 cap0 : Nat) (z0 : List Int) (x : Int) (a2 : Option Addr) (len2 cap2 : Nat) (z2 : List Int) (y : Int) (w : World) (w0 : IsRow .i64 w a0 len0 cap0 z0) (w2 : IsRow .i64 w a2 len2 cap2 z2) (l0 : len0 ≤ 1024) (l2 : len2 ≤ 1024) :
    Calls Yba.prog 4 #[.slice a0 len0 cap0, .int .i64 x, .slice a2 len2 cap2, .int .i64 y] w fun e w' => e = .returned (.bool true) ∧ Below w.heap.size w w' := by
  obtain ⟨i0, hi, hz0, hz1, hz2⟩ := info_parts Yba.info3
  have W0 : Hid (IsRow .i64 w a0 len0 cap0 z0) := w0
  have W2 : Hid (IsRow .i64 w a2 len2 cap2 z2) := w2
  clear w0 w2
  have hd : decide ((1024 : Int) < len0) = false := by simp; omega
  have hd2 : decide ((1024 : Int) < len2) = false := by simp; omega
  go_enter Yba.func4, Yba.ntmps4
  go_wp2_with fail
  refine (clone7H a0 len0 cap0 z0 w W0 l0).mono ?_
  rintro e w1 ⟨v1, p, rfl, H1⟩
  go_wp2_with (at_builtin; refine wpList_append_own _ rfl _ _ 25 rfl w.heap.size 3 i0 (.int .i64 0) 1 8 Yba.underlying25 hi hz0 hz1 hz2 rfl (by decide) _ _ _ rfl (H1.1.alloc _) ⟨w1.heap.size, 0, none⟩ 1 1 [.int .i64 x] rfl rfl ?qc2 ?qc3 ?qc4 ?qc5 ?qc6 ?_)
  case qc2 => exact cell_one_new _ _ _
  case qc3 => intro u hu; simp at hu; subst hu; rfl
  case qc4 => unfold maxLen; omega
  case qc5 => omega
  case qc6 => have := H1.2.size; simp; omega
  intro v2 w2 hown hgrow _
  obtain ⟨g, c, rfl, G⟩ := appended H1 hown hgrow
  clear H1 hown hgrow
  have W3 : Hid (IsRow .i64 w2 a2 len2 cap2 z2) := W2.out.below G.below
  clear W0 W2
  go_wp2_with fail
  refine (clone7H a2 len2 cap2 z2 w2 W3 l2).mono ?_
  rintro e w3 ⟨v3, q, rfl, H3⟩
  go_wp2_with (at_builtin; refine wpList_append_own _ rfl _ _ 25 rfl w2.heap.size 3 i0 (.int .i64 0) 1 8 Yba.underlying25 hi hz0 hz1 hz2 rfl (by decide) _ _ _ rfl (H3.1.alloc _) ⟨w3.heap.size, 0, none⟩ 1 1 [.int .i64 y] rfl rfl ?qc2 ?qc3 ?qc4 ?qc5 ?qc6 ?_)
  case qc2 => exact cell_one_new _ _ _
  case qc3 => intro u hu; simp at hu; subst hu; rfl
  case qc4 => unfold maxLen; omega
  case qc5 => omega
  case qc6 => have := H3.2.size; simp; omega
  intro v4 w4 hown hgrow _
  obtain ⟨h, d, rfl, G4⟩ := appended H3 hown hgrow
  have A4 := G.step G4.below
  clear H3 hown hgrow W3 G
  go_wp2_with fail
  refine (clone8H A4 l0).mono ?_
  rintro e w5 ⟨g', c', rfl, M5, b5⟩
  have A5 := A4.step b5
  have B5 := G4.step b5
  clear A4 G4 b5
  go_wp2_with fail
  refine (clone8H B5 l2).mono ?_
  rintro e w6 ⟨h', d', rfl, N6, b6⟩
  have A6 := A5.step b6
  have B6 := B5.step b6
  have M6 := M5.below b6
  clear A5 B5 M5 b6
  go_wp2_with fail
  refine (beforeH A6 B6 l0 l2).mono ?_
  rintro e w7 ⟨rfl, k7, rfl⟩
  have A7 := A6.draw k7
  have B7 := B6.draw k7
  have M7 := M6.drewN k7
  have N7 := N6.drewN k7
  clear A6 B6 M6 N6
  generalize w6.drewN k7 = w8 at A7 B7 M7 N7 ⊢
  by_cases e : x = y
  · subst e
    have hw : wantB p q x x = lessL (p ++ [x]) (q ++ [x]) := by unfold wantB; rw [if_pos rfl]
    rw [hw]
    have HL := lessH (c := c) (d := d) A7 B7 l0 l2
    generalize lessL (p ++ [x]) (q ++ [x]) = b at HL ⊢
    clear hw
    have HL' : Hid (Calls Yba.prog 10 #[.slice (some ⟨g, 0, none⟩) (len0 + 1) c, .slice (some ⟨h, 0, none⟩) (len2 + 1) d] w8 fun e w' => e = .returned (.bool b) ∧ ∃ m, w' = w8.drewN m) := HL
    clear HL
    go_wp2_with fail
    refine HL'.out.mono ?_
    rintro e w9 ⟨rfl, k9, rfl⟩
    have A9 := A7.draw k9
    have B9 := B7.draw k9
    have M9 := M7.drewN k9
    have N9 := N7.drewN k9
    clear A7 B7 M7 N7 HL'
    generalize w8.drewN k9 = wa at A9 B9 M9 N9 ⊢
    go_wp2_with fail
    refine (equalH A9 M9 l0).mono ?_
    rintro e wb ⟨rfl, kb, rfl⟩
    go_wp2_with fail
    refine (equalH (B9.draw kb) (N9.drewN kb) l2).mono ?_
    rintro e wc ⟨rfl, kc, rfl⟩
    go_wp2_with fail
    go_ret
    exact ⟨rfl, (A9.draw _).below⟩
  · have e' : (x == y) = false := by simpa using e
    have hw : wantB p q x y = decide (x < y) := by unfold wantB; rw [if_neg e]
    rw [hw]
    clear hw
    go_wp2_with fail
    refine (equalH A7 M7 l0).mono ?_
    rintro e wb ⟨rfl, kb, rfl⟩
    go_wp2_with fail
    refine (equalH (B7.draw kb) (N7.drewN kb) l2).mono ?_
    rintro e wc ⟨rfl, kc, rfl⟩
    go_wp2_with fail
    go_ret
    exact ⟨rfl, (A7.draw _).below⟩

set_option maxHeartbeats 400000 in
theorem cmodel_big0 (a0 : Option Addr) (len0 cap0 : Nat) (x : Int) (a2 : Option Addr) (len2 cap2 : Nat) (y : Int) (w : World) (l0 : 1024 < len0) :
    Calls Yba.prog 4 #[.slice a0 len0 cap0, .int .i64 x, .slice a2 len2 cap2, .int .i64 y] w fun e w' => e = .returned (.bool true) ∧ Below w.heap.size w w' := by
  have hd : decide ((1024 : Int) < len0) = true := by simp; omega
  go_enter Yba.func4, Yba.ntmps4
  go_wp2_with fail
  go_ret
  exact ⟨rfl, Below.refl _ _⟩
set_option maxHeartbeats 400000 in
theorem cmodel_big2 (a0 : Option Addr) (len0 cap0 : Nat) (x : Int) (a2 : Option Addr) (len2 cap2 : Nat) (y : Int) (w : World) (l0 : len0 ≤ 1024) (l2 : 1024 < len2) :
    Calls Yba.prog 4 #[.slice a0 len0 cap0, .int .i64 x, .slice a2 len2 cap2, .int .i64 y] w fun e w' => e = .returned (.bool true) ∧ Below w.heap.size w w' := by
  have hd : decide ((1024 : Int) < len0) = false := by simp; omega
  have hd2 : decide ((1024 : Int) < len2) = true := by simp; omega
  go_enter Yba.func4, Yba.ntmps4
  go_wp2_with fail
  go_ret
  exact ⟨rfl, Below.refl _ _⟩
theorem cmodel_any (a0 : Option Addr) (len0 cap0 : Nat) (z0 : List Int) (x : Int) (a2 : Option Addr) (len2 cap2 : Nat) (z2 : List Int) (y : Int) (w : World) (w0 : IsRow .i64 w a0 len0 cap0 z0) (w2 : IsRow .i64 w a2 len2 cap2 z2) :
    Calls Yba.prog 4 #[.slice a0 len0 cap0, .int .i64 x, .slice a2 len2 cap2, .int .i64 y] w fun e w' => e = .returned (.bool true) ∧ Below w.heap.size w w' := by
  by_cases h0 : 1024 < len0
  · exact cmodel_big0 a0 len0 cap0 x a2 len2 cap2 y w h0
  · by_cases h2 : 1024 < len2
    · exact cmodel_big2 a0 len0 cap0 x a2 len2 cap2 y w (by omega) h2
    · exact cmodel a0 len0 cap0 z0 x a2 len2 cap2 z2 y w w0 w2 (by omega) (by omega)
end Go.Proofs.Ybulkbtyo
