/-
  visitXPath (function 12) and the law's own closure (function 13): THE WALKS.
-/
import Derived.Test.YbulkbucwTree
import Derived.WalkSpells
import Derived.WalkLawsBesides
import Derived.BigQuiet
import Derived.Lib.SmallJoins
namespace Go.Proofs.Ybulkbucw
open Go.RowKit

theorem Yba.info45 : (Yba.prog.info? 45).map (fun i => (i.zero, i.size, i.bytes)) = some (some .nilIface, 1, 16) := by kernel_rfl

/-- The log: block L holds the slice; its array lies behind L. -/
def LogAt (w : World) (L : Nat) (xs : List Value) : Prop := ∃ lv, w.cell? ⟨L, 0, none⟩ = some lv ∧ w.frozen? ⟨L, 0, none⟩ = false ∧ w.ownsRow (L + 1) 45 1 lv xs.length xs

theorem logged {w w1 : World} {L : Nat} {xs : List Value} {lv lv' e : Value} {o : Obj} (h : w.cell? ⟨L, 0, none⟩ = some lv) (hf : w.frozen? ⟨L, 0, none⟩ = false) (ho : w.ownsRow (L + 1) 45 1 lv xs.length xs)
    (hown : w1.ownsRow (L + 1) 45 1 lv' (xs.length + 1) (xs ++ [e])) (hg : (w.alloc o).grownBy w1 lv.ownBlock) : w1.cell? ⟨L, 0, none⟩ = some lv ∧ w1.frozen? ⟨L, 0, none⟩ = false ∧ Below L w (w1.setCell ⟨L, 0, none⟩ lv') ∧ LogAt (w1.setCell ⟨L, 0, none⟩ lv') L (xs ++ [e]) := by
  have hL : L < w.heap.size := World.block_lt_of_cell? w _ h
  have hne : some L ≠ lv.ownBlock := fun e => by
    have := ho.lt L e.symm
    omega
  have hblk : w1.heap[L]? = w.heap[L]? := by
    rw [hg.block L (by simp; omega) hne, Below.heap_alloc _ _ _ hL]
  have c1 : w1.cell? ⟨L, 0, none⟩ = some lv := by rw [World.cell?_of_block (w := w) (a := ⟨L, 0, none⟩) hblk]; exact h
  have f1 : w1.frozen? ⟨L, 0, none⟩ = false := by rw [World.frozen?_of_block (w := w) (a := ⟨L, 0, none⟩) hblk]; exact hf
  refine ⟨c1, f1, ?_, lv', World.cell?_setCell_same _ _ _ c1, by rw [World.frozen?_setCell]; exact f1, ?_⟩
  · refine Below.setCell (p := ⟨L, 0, none⟩) ?_ (Nat.le_refl L) _
    refine Below.grown ((Below.refl L w).alloc (by omega) o) hg (by simp; omega) ?_
    intro k hk
    have := ho.lt k hk
    omega
  · have e1 : (xs ++ [e]).length = xs.length + 1 := by simp
    rw [e1]
    exact ownsRow_setCell_below hown (by simp) _

set_option maxRecDepth 100000 in
set_option maxHeartbeats 400000 in
theorem log_one (T b L : Nat) (xs : List Value) (w : World) (hx : xs.length ≤ 10000) (h : LogAt w L xs) :
    Calls Yba.prog 13 #[.iface T (.pointer (some ⟨b, 0, none⟩)), .pointer (some ⟨L, 0, none⟩)] w fun e' w' => e' = .returned (.tuple #[]) ∧ Below L w w' ∧ LogAt w' L (xs ++ [.iface T (.pointer (some ⟨b, 0, none⟩))]) := by
  obtain ⟨lv, h1, h2, h3⟩ := h
  obtain ⟨i0, hi, hz0, hz1, hz2⟩ := info_parts Yba.info45
  have H3 : Hid (w.ownsRow (L + 1) 45 1 lv xs.length xs) := h3
  have hL : L < w.heap.size := World.block_lt_of_cell? w _ h1
  clear h3
  go_enter Yba.func13, Yba.ntmps13
  go_wp2_with (at_builtin; refine wpList_append_own _ rfl _ _ 43 rfl (L + 1) 45 i0 .nilIface 1 16 Yba.underlying43 hi hz0 hz1 hz2 rfl (by decide) _ _ _ rfl (H3.out.alloc _) ⟨w.heap.size, 0, none⟩ 1 1 [.iface T (.pointer (some ⟨b, 0, none⟩))] rfl rfl ?qc2 ?qc3 ?qc4 ?qc5 ?qc6 ?_)
  case qc2 => exact cell_one_new _ _ _
  case qc3 => intro u hu; simp at hu; subst hu; rfl
  case qc4 => unfold maxLen; omega
  case qc5 => omega
  case qc6 => simp; omega
  intro v' w1 hown hgrow _
  obtain ⟨c1, f1, b1, l1⟩ := logged h1 h2 H3.out hown hgrow
  obtain ⟨g, cap, rfl⟩ := Go.Joins.ownsRow_form hown (by omega)
  have B1 : Hid (Below L w (w1.setCell ⟨L, 0, none⟩ (.slice (some ⟨g, 0, none⟩) (xs.length + 1) cap))) := b1
  have L1 : Hid (LogAt (w1.setCell ⟨L, 0, none⟩ (.slice (some ⟨g, 0, none⟩) (xs.length + 1) cap)) L (xs ++ [.iface T (.pointer (some ⟨b, 0, none⟩))])) := l1
  clear hown hgrow b1 l1 H3 h1 h2
  go_wp2
  go_end0
  exact ⟨rfl, B1.out, L1.out⟩
theorem as_77_50 (v : Value) (w : World) : (Instr.typeAssert (.iface 77 v) 45 50 true).run Yba.prog w = .ok (.tuple #[.pointer none, .bool false]) w := by kernel_rfl
theorem as_80_50 (v : Value) (w : World) : (Instr.typeAssert (.iface 80 v) 45 50 true).run Yba.prog w = .ok (.tuple #[.pointer none, .bool false]) w := by kernel_rfl
theorem as_84_50 (v : Value) (w : World) : (Instr.typeAssert (.iface 84 v) 45 50 true).run Yba.prog w = .ok (.tuple #[.pointer none, .bool false]) w := by kernel_rfl
theorem as_47_50 (v : Value) (w : World) : (Instr.typeAssert (.iface 47 v) 45 50 true).run Yba.prog w = .ok (.tuple #[.pointer none, .bool false]) w := by kernel_rfl
theorem as_50_50 (v : Value) (w : World) : (Instr.typeAssert (.iface 50 v) 45 50 true).run Yba.prog w = .ok (.tuple #[v, .bool true]) w := by kernel_rfl
theorem as_53_50 (v : Value) (w : World) : (Instr.typeAssert (.iface 53 v) 45 50 true).run Yba.prog w = .ok (.tuple #[.pointer none, .bool false]) w := by kernel_rfl
theorem as_56_50 (v : Value) (w : World) : (Instr.typeAssert (.iface 56 v) 45 50 true).run Yba.prog w = .ok (.tuple #[.pointer none, .bool false]) w := by kernel_rfl
theorem as_77_47 (v : Value) (w : World) : (Instr.typeAssert (.iface 77 v) 45 47 true).run Yba.prog w = .ok (.tuple #[.pointer none, .bool false]) w := by kernel_rfl
theorem as_80_47 (v : Value) (w : World) : (Instr.typeAssert (.iface 80 v) 45 47 true).run Yba.prog w = .ok (.tuple #[.pointer none, .bool false]) w := by kernel_rfl
theorem as_84_47 (v : Value) (w : World) : (Instr.typeAssert (.iface 84 v) 45 47 true).run Yba.prog w = .ok (.tuple #[.pointer none, .bool false]) w := by kernel_rfl
theorem as_47_47 (v : Value) (w : World) : (Instr.typeAssert (.iface 47 v) 45 47 true).run Yba.prog w = .ok (.tuple #[v, .bool true]) w := by kernel_rfl
theorem as_50_47 (v : Value) (w : World) : (Instr.typeAssert (.iface 50 v) 45 47 true).run Yba.prog w = .ok (.tuple #[.pointer none, .bool false]) w := by kernel_rfl
theorem as_53_47 (v : Value) (w : World) : (Instr.typeAssert (.iface 53 v) 45 47 true).run Yba.prog w = .ok (.tuple #[.pointer none, .bool false]) w := by kernel_rfl
theorem as_56_47 (v : Value) (w : World) : (Instr.typeAssert (.iface 56 v) 45 47 true).run Yba.prog w = .ok (.tuple #[.pointer none, .bool false]) w := by kernel_rfl
theorem as_77_53 (v : Value) (w : World) : (Instr.typeAssert (.iface 77 v) 45 53 true).run Yba.prog w = .ok (.tuple #[.pointer none, .bool false]) w := by kernel_rfl
theorem as_80_53 (v : Value) (w : World) : (Instr.typeAssert (.iface 80 v) 45 53 true).run Yba.prog w = .ok (.tuple #[.pointer none, .bool false]) w := by kernel_rfl
theorem as_84_53 (v : Value) (w : World) : (Instr.typeAssert (.iface 84 v) 45 53 true).run Yba.prog w = .ok (.tuple #[.pointer none, .bool false]) w := by kernel_rfl
theorem as_47_53 (v : Value) (w : World) : (Instr.typeAssert (.iface 47 v) 45 53 true).run Yba.prog w = .ok (.tuple #[.pointer none, .bool false]) w := by kernel_rfl
theorem as_50_53 (v : Value) (w : World) : (Instr.typeAssert (.iface 50 v) 45 53 true).run Yba.prog w = .ok (.tuple #[.pointer none, .bool false]) w := by kernel_rfl
theorem as_53_53 (v : Value) (w : World) : (Instr.typeAssert (.iface 53 v) 45 53 true).run Yba.prog w = .ok (.tuple #[v, .bool true]) w := by kernel_rfl
theorem as_56_53 (v : Value) (w : World) : (Instr.typeAssert (.iface 56 v) 45 53 true).run Yba.prog w = .ok (.tuple #[.pointer none, .bool false]) w := by kernel_rfl
theorem as_77_56 (v : Value) (w : World) : (Instr.typeAssert (.iface 77 v) 45 56 true).run Yba.prog w = .ok (.tuple #[.pointer none, .bool false]) w := by kernel_rfl
theorem as_80_56 (v : Value) (w : World) : (Instr.typeAssert (.iface 80 v) 45 56 true).run Yba.prog w = .ok (.tuple #[.pointer none, .bool false]) w := by kernel_rfl
theorem as_84_56 (v : Value) (w : World) : (Instr.typeAssert (.iface 84 v) 45 56 true).run Yba.prog w = .ok (.tuple #[.pointer none, .bool false]) w := by kernel_rfl
theorem as_47_56 (v : Value) (w : World) : (Instr.typeAssert (.iface 47 v) 45 56 true).run Yba.prog w = .ok (.tuple #[.pointer none, .bool false]) w := by kernel_rfl
theorem as_50_56 (v : Value) (w : World) : (Instr.typeAssert (.iface 50 v) 45 56 true).run Yba.prog w = .ok (.tuple #[.pointer none, .bool false]) w := by kernel_rfl
theorem as_53_56 (v : Value) (w : World) : (Instr.typeAssert (.iface 53 v) 45 56 true).run Yba.prog w = .ok (.tuple #[.pointer none, .bool false]) w := by kernel_rfl
theorem as_56_56 (v : Value) (w : World) : (Instr.typeAssert (.iface 56 v) 45 56 true).run Yba.prog w = .ok (.tuple #[v, .bool true]) w := by kernel_rfl

/-- The closure that the law hands on: it appends to the log at block L. -/
def theF (L : Nat) : Value := .func (.func 13) #[] #[.pointer (some ⟨L, 0, none⟩)]
/-- What visitXPath does, said of trees that are at most d deep. -/
def Visits (d : Nat) : Prop := ∀ (L : Nat) (S : Nat → Prop) (v : Value) (post xs : List Value) (w : World), (∀ b, S b → b < L) → Tree d w S v post → LogAt w L xs → xs.length + post.length ≤ 8000 →
  Calls Yba.prog 12 #[v, .func (.func 13) #[] #[.pointer (some ⟨L, 0, none⟩)]] w fun e w' => e = .returned (.tuple #[]) ∧ Below L w w' ∧ LogAt w' L (xs ++ post)

set_option maxRecDepth 100000 in
set_option maxHeartbeats 1000000 in
theorem visit_leaf (T b L : Nat) (xs : List Value) (w : World) (hT : T = 77 ∨ T = 80 ∨ T = 84) (hx : xs.length ≤ 8000) (h : LogAt w L xs) :
    Calls Yba.prog 12 #[.iface T (.pointer (some ⟨b, 0, none⟩)), .func (.func 13) #[] #[.pointer (some ⟨L, 0, none⟩)]] w fun e w' => e = .returned (.tuple #[]) ∧ Below L w w' ∧ LogAt w' L (xs ++ [.iface T (.pointer (some ⟨b, 0, none⟩))]) := by
  have H : Hid (Calls Yba.prog 13 #[.iface T (.pointer (some ⟨b, 0, none⟩)), .pointer (some ⟨L, 0, none⟩)] w fun e' w' => e' = .returned (.tuple #[]) ∧ Below L w w' ∧ LogAt w' L (xs ++ [.iface T (.pointer (some ⟨b, 0, none⟩))])) := log_one T b L xs w (by omega) h
  clear h
  rcases hT with rfl | rfl | rfl
  · have a1 := as_77_50; have a2 := as_77_47; have a3 := as_77_53; have a4 := as_77_56
    go_enter Yba.func12, Yba.ntmps12
    go_wp2_with fail
    refine H.out.mono ?_
    rintro e w1 ⟨rfl, b1, l1⟩
    have B1 : Hid (Below L w w1) := b1
    have L1 : Hid (LogAt w1 L (xs ++ [.iface 77 (.pointer (some ⟨b, 0, none⟩))])) := l1
    clear b1 l1 H
    go_wp2_with fail
    go_end0
    exact ⟨rfl, B1.out, L1.out⟩
  · have a1 := as_80_50; have a2 := as_80_47; have a3 := as_80_53; have a4 := as_80_56
    go_enter Yba.func12, Yba.ntmps12
    go_wp2_with fail
    refine H.out.mono ?_
    rintro e w1 ⟨rfl, b1, l1⟩
    have B1 : Hid (Below L w w1) := b1
    have L1 : Hid (LogAt w1 L (xs ++ [.iface 80 (.pointer (some ⟨b, 0, none⟩))])) := l1
    clear b1 l1 H
    go_wp2_with fail
    go_end0
    exact ⟨rfl, B1.out, L1.out⟩
  · have a1 := as_84_50; have a2 := as_84_47; have a3 := as_84_53; have a4 := as_84_56
    go_enter Yba.func12, Yba.ntmps12
    go_wp2_with fail
    refine H.out.mono ?_
    rintro e w1 ⟨rfl, b1, l1⟩
    have B1 : Hid (Below L w w1) := b1
    have L1 : Hid (LogAt w1 L (xs ++ [.iface 84 (.pointer (some ⟨b, 0, none⟩))])) := l1
    clear b1 l1 H
    go_wp2_with fail
    go_end0
    exact ⟨rfl, B1.out, L1.out⟩

set_option maxRecDepth 100000 in
set_option maxHeartbeats 1000000 in
theorem visit_neg (d : Nat) (ih : Visits d) (b L : Nat) (S : Nat → Prop) (p xs : List Value) (w : World) (u : Value) (hS : ∀ b, S b → b < L) (hc : w.cell? ⟨b, 0, none⟩ = some u) (ht : Tree d w S u p) (hx : xs.length + p.length ≤ 7999) (h : LogAt w L xs) :
    Calls Yba.prog 12 #[.iface 47 (.pointer (some ⟨b, 0, none⟩)), .func (.func 13) #[] #[.pointer (some ⟨L, 0, none⟩)]] w fun e w' => e = .returned (.tuple #[]) ∧ Below L w w' ∧ LogAt w' L (xs ++ (p ++ [.iface 47 (.pointer (some ⟨b, 0, none⟩))])) := by
  have H : Hid (Calls Yba.prog 12 #[u, .func (.func 13) #[] #[.pointer (some ⟨L, 0, none⟩)]] w fun e w' => e = .returned (.tuple #[]) ∧ Below L w w' ∧ LogAt w' L (xs ++ p)) := ih L S u p xs w hS ht h (by omega)
  clear h ht ih
  have a1 := as_47_50; have a2 := as_47_47
  go_enter Yba.func12, Yba.ntmps12
  go_wp2_with fail
  refine H.out.mono ?_
  rintro e w1 ⟨rfl, b1, l1⟩
  have B1 : Hid (Below L w w1) := b1
  have L1 : Hid (LogAt w1 L (xs ++ p)) := l1
  clear b1 l1 H
  go_wp2_with fail
  refine (log_one 47 b L (xs ++ p) w1 (by simp; omega) L1.out).mono ?_
  rintro e w2 ⟨rfl, b2, l2⟩
  have B2 : Hid (Below L w w2) := B1.out.trans b2
  have L2 : Hid (LogAt w2 L (xs ++ (p ++ [.iface 47 (.pointer (some ⟨b, 0, none⟩))]))) := by rw [List.append_assoc] at l2; exact l2
  clear b2 l2 B1 L1
  go_wp2_with fail
  go_end0
  exact ⟨rfl, B2.out, L2.out⟩

set_option maxRecDepth 100000 in
set_option maxHeartbeats 1000000 in
theorem visit_op (d : Nat) (ih : Visits d) (b L : Nat) (S : Nat → Prop) (p xs : List Value) (w : World) (sv : Value) (us : List Value) (hS : ∀ b, S b → b < L) (hc : w.cell? ⟨b, 0, none⟩ = some sv) (hsl : SliceOf w S sv us) (hf : Forest (Tree d w S) us p) (hx : xs.length + p.length ≤ 7999) (h : LogAt w L xs) :
    Calls Yba.prog 12 #[.iface 50 (.pointer (some ⟨b, 0, none⟩)), .func (.func 13) #[] #[.pointer (some ⟨L, 0, none⟩)]] w fun e w' => e = .returned (.tuple #[]) ∧ Below L w w' ∧ LogAt w' L (xs ++ (p ++ [.iface 50 (.pointer (some ⟨b, 0, none⟩))])) := by
  obtain ⟨a, cap, rfl, hel⟩ := hsl
  have IH : Hid (Visits d) := ih
  have HEL : Hid (∀ (i : Nat) (u : Value), us[i]? = some u → ∃ g off, a = some ⟨g, off, none⟩ ∧ S g ∧ w.cell? ⟨g, off + i, none⟩ = some u) := hel
  have HS : Hid (∀ b, S b → b < L) := hS
  have HF : Hid (Forest (Tree d w S) us p) := hf
  have HL : Hid (LogAt w L xs) := h
  have hn : us.length ≤ 7999 := by have := Forest.len hf; omega
  clear ih hel hS hf h
  have a1 := as_50_50
  go_enter Yba.func12, Yba.ntmps12
  go_wp2_with fail
  go_loopw [26] (fun i wr => ∃ (n : Nat) (p1 p2 : List Value), n ≤ us.length ∧ i = .int .i64 n ∧ p = p1 ++ p2 ∧ Forest (Tree d w S) (us.drop n) p2 ∧ Below L w wr ∧ LogAt wr L (xs ++ p1)) (fun i _ => us.length - (intOf i).toNat)
  case atStart => exact ⟨0, [], p, Nat.zero_le _, rfl, rfl, HF.out, Below.refl _ _, by rw [List.append_nil]; exact HL.out⟩
  case round =>
    obtain ⟨n, p1, p2, hn1, rfl, hp, hf2, hb2, hl2⟩ := hrel
    have HP : Hid (p = p1 ++ p2) := hp
    have HF2 : Hid (Forest (Tree d w S) (us.drop n) p2) := hf2
    have HB2 : Hid (Below L w wr) := hb2
    have HL2 : Hid (LogAt wr L (xs ++ p1)) := hl2
    clear hp hf2 hb2 hl2
    by_cases hlt : n < us.length
    · obtain ⟨u, hu⟩ : ∃ u, us[n]? = some u := ⟨us[n], List.getElem?_eq_getElem hlt⟩
      obtain ⟨q1, q2, hp2, ht, hf3⟩ := HF2.out.next hu
      obtain ⟨g, off, rfl, hg, hcu⟩ := HEL.out n u hu
      have hcw : wr.cell? ⟨g, off + n, none⟩ = some u := by rw [HB2.out.cell (p := ⟨g, off + n, none⟩) (HS.out g hg)]; exact hcu
      have H : Hid (Calls Yba.prog 12 #[u, .func (.func 13) #[] #[.pointer (some ⟨L, 0, none⟩)]] wr fun e w' => e = .returned (.tuple #[]) ∧ Below L wr w' ∧ LogAt w' L ((xs ++ p1) ++ q1)) :=
        IH.out L S u q1 (xs ++ p1) wr HS.out (ht.mono (fun _ h => h) (fun b o hb => HB2.out.cell (p := ⟨b, o, none⟩) (HS.out b hb)) (Nat.le_refl _)) HL2.out (by have := HP.out; rw [hp2] at this; rw [this] at hx; simp at hx ⊢; omega)
      have HF3 : Hid (Forest (Tree d w S) (us.drop (n + 1)) q2) := hf3
      have HP2 : Hid (p2 = q1 ++ q2) := hp2
      clear hcu ht hf3 hu hp2
      go_wp2_with fail
      refine H.out.mono ?_
      rintro e w1 ⟨rfl, b1, l1⟩
      have B1 : Hid (Below L w w1) := HB2.out.trans b1
      have L1 : Hid (LogAt w1 L (xs ++ (p1 ++ q1))) := by rw [List.append_assoc] at l1; exact l1
      clear b1 l1 H
      go_wp2_with fail
      go_roundw
      case rel => exact ⟨n + 1, p1 ++ q1, q2, by omega, by go_num, by rw [HP.out, HP2.out, List.append_assoc], HF3.out, B1.out, L1.out⟩
      case measure => simp [intOf]; omega
    · have HP3 : Hid (p = p1) := by
        have h1 := HF2.out
        rw [List.drop_eq_nil_of_le (by omega)] at h1
        have h2 : p2 = [] := h1
        have := HP.out
        rw [h2, List.append_nil] at this
        exact this
      have hx2 : xs.length + p1.length ≤ 7999 := by rw [← HP3.out]; exact hx
      go_wp2_with fail
      refine (log_one 50 b L (xs ++ p1) wr (by simp; omega) HL2.out).mono ?_
      rintro e w2 ⟨rfl, b2, l2⟩
      have B2 : Hid (Below L w w2) := HB2.out.trans b2
      have L2 : Hid (LogAt w2 L (xs ++ (p ++ [.iface 50 (.pointer (some ⟨b, 0, none⟩))]))) := by rw [HP3.out]; rw [List.append_assoc] at l2; exact l2
      clear b2 l2
      go_wp2_with fail
      go_end0
      exact ⟨rfl, B2.out, L2.out⟩

set_option maxRecDepth 100000 in
set_option maxHeartbeats 1000000 in
theorem visit_call (d : Nat) (ih : Visits d) (b L : Nat) (S : Nat → Prop) (p xs : List Value) (w : World) (sv : Value) (us : List Value) (hS : ∀ b, S b → b < L) (hc : w.cell? ⟨b, 2, none⟩ = some sv) (hsl : SliceOf w S sv us) (hf : Forest (Tree d w S) us p) (hx : xs.length + p.length ≤ 7999) (h : LogAt w L xs) :
    Calls Yba.prog 12 #[.iface 53 (.pointer (some ⟨b, 0, none⟩)), .func (.func 13) #[] #[.pointer (some ⟨L, 0, none⟩)]] w fun e w' => e = .returned (.tuple #[]) ∧ Below L w w' ∧ LogAt w' L (xs ++ (p ++ [.iface 53 (.pointer (some ⟨b, 0, none⟩))])) := by
  obtain ⟨a, cap, rfl, hel⟩ := hsl
  have IH : Hid (Visits d) := ih
  have HEL : Hid (∀ (i : Nat) (u : Value), us[i]? = some u → ∃ g off, a = some ⟨g, off, none⟩ ∧ S g ∧ w.cell? ⟨g, off + i, none⟩ = some u) := hel
  have HS : Hid (∀ b, S b → b < L) := hS
  have HF : Hid (Forest (Tree d w S) us p) := hf
  have HL : Hid (LogAt w L xs) := h
  have hn : us.length ≤ 7999 := by have := Forest.len hf; omega
  clear ih hel hS hf h
  have a1 := as_53_50; have a2 := as_53_47; have a3 := as_53_53
  go_enter Yba.func12, Yba.ntmps12
  go_wp2_with fail
  go_loopw [51] (fun i wr => ∃ (n : Nat) (p1 p2 : List Value), n ≤ us.length ∧ i = .int .i64 n ∧ p = p1 ++ p2 ∧ Forest (Tree d w S) (us.drop n) p2 ∧ Below L w wr ∧ LogAt wr L (xs ++ p1)) (fun i _ => us.length - (intOf i).toNat)
  case atStart => exact ⟨0, [], p, Nat.zero_le _, rfl, rfl, HF.out, Below.refl _ _, by rw [List.append_nil]; exact HL.out⟩
  case round =>
    obtain ⟨n, p1, p2, hn1, rfl, hp, hf2, hb2, hl2⟩ := hrel
    have HP : Hid (p = p1 ++ p2) := hp
    have HF2 : Hid (Forest (Tree d w S) (us.drop n) p2) := hf2
    have HB2 : Hid (Below L w wr) := hb2
    have HL2 : Hid (LogAt wr L (xs ++ p1)) := hl2
    clear hp hf2 hb2 hl2
    by_cases hlt : n < us.length
    · obtain ⟨u, hu⟩ : ∃ u, us[n]? = some u := ⟨us[n], List.getElem?_eq_getElem hlt⟩
      obtain ⟨q1, q2, hp2, ht, hf3⟩ := HF2.out.next hu
      obtain ⟨g, off, rfl, hg, hcu⟩ := HEL.out n u hu
      have hcw : wr.cell? ⟨g, off + n, none⟩ = some u := by rw [HB2.out.cell (p := ⟨g, off + n, none⟩) (HS.out g hg)]; exact hcu
      have H : Hid (Calls Yba.prog 12 #[u, .func (.func 13) #[] #[.pointer (some ⟨L, 0, none⟩)]] wr fun e w' => e = .returned (.tuple #[]) ∧ Below L wr w' ∧ LogAt w' L ((xs ++ p1) ++ q1)) :=
        IH.out L S u q1 (xs ++ p1) wr HS.out (ht.mono (fun _ h => h) (fun b o hb => HB2.out.cell (p := ⟨b, o, none⟩) (HS.out b hb)) (Nat.le_refl _)) HL2.out (by have := HP.out; rw [hp2] at this; rw [this] at hx; simp at hx ⊢; omega)
      have HF3 : Hid (Forest (Tree d w S) (us.drop (n + 1)) q2) := hf3
      have HP2 : Hid (p2 = q1 ++ q2) := hp2
      clear hcu ht hf3 hu hp2
      go_wp2_with fail
      refine H.out.mono ?_
      rintro e w1 ⟨rfl, b1, l1⟩
      have B1 : Hid (Below L w w1) := HB2.out.trans b1
      have L1 : Hid (LogAt w1 L (xs ++ (p1 ++ q1))) := by rw [List.append_assoc] at l1; exact l1
      clear b1 l1 H
      go_wp2_with fail
      go_roundw
      case rel => exact ⟨n + 1, p1 ++ q1, q2, by omega, by go_num, by rw [HP.out, HP2.out, List.append_assoc], HF3.out, B1.out, L1.out⟩
      case measure => simp [intOf]; omega
    · have HP3 : Hid (p = p1) := by
        have h1 := HF2.out
        rw [List.drop_eq_nil_of_le (by omega)] at h1
        have h2 : p2 = [] := h1
        have := HP.out
        rw [h2, List.append_nil] at this
        exact this
      have hx2 : xs.length + p1.length ≤ 7999 := by rw [← HP3.out]; exact hx
      go_wp2_with fail
      refine (log_one 53 b L (xs ++ p1) wr (by simp; omega) HL2.out).mono ?_
      rintro e w2 ⟨rfl, b2, l2⟩
      have B2 : Hid (Below L w w2) := HB2.out.trans b2
      have L2 : Hid (LogAt w2 L (xs ++ (p ++ [.iface 53 (.pointer (some ⟨b, 0, none⟩))]))) := by rw [HP3.out]; rw [List.append_assoc] at l2; exact l2
      clear b2 l2
      go_wp2_with fail
      go_end0
      exact ⟨rfl, B2.out, L2.out⟩
end Go.Proofs.Ybulkbucw
