/-
  EXPRESSION TREES IN MEMORY: what a value of the interface type leads to, and the order 'inner before outer, left to right' of its nodes.
-/
import Derived.Test.YbulkbucwRows
import Derived.WalkKit
import Derived.WalkSmall
namespace Go.Proofs.Ybulkbucw
open Go.RowKit

/-- A slice of expressions: its elements; each lies in a block of S. -/
def SliceOf (w : World) (S : Nat → Prop) (sv : Value) (us : List Value) : Prop :=
  ∃ (a : Option Addr) (cap : Nat), sv = .slice a us.length cap ∧ ∀ (i : Nat) (u : Value), us[i]? = some u → ∃ g off, a = some ⟨g, off, none⟩ ∧ S g ∧ w.cell? ⟨g, off + i, none⟩ = some u
/-- A slice of steps: of each its predicates. -/
def StepsOf (w : World) (S : Nat → Prop) (sv : Value) (rows : List (List Value)) : Prop :=
  ∃ (a : Option Addr) (cap : Nat), rows.length ≤ 100 ∧ sv = .slice a rows.length cap ∧ ∀ (i : Nat) (us : List Value), rows[i]? = some us → ∃ g off pv, a = some ⟨g, off, none⟩ ∧ S g ∧ w.cell? ⟨g, off + (i * 8 + 5), none⟩ = some pv ∧ SliceOf w S pv us
/-- A row of expressions, each with its own list; the lists one behind the other. -/
def Forest (T : Value → List Value → Prop) : List Value → List Value → Prop
  | [], post => post = []
  | u :: us, post => ∃ p q, T u p ∧ Forest T us q ∧ post = p ++ q
/-- The node v, at most d deep, all that it leads to in blocks of S: its nodes, the inner before the outer. -/
def Tree : Nat → World → (Nat → Prop) → Value → List Value → Prop
  | 0, _, _, _, _ => False
  | d + 1, w, S, v, post => ∃ (T b : Nat) (p : List Value), v = .iface T (.pointer (some ⟨b, 0, none⟩)) ∧ post = p ++ [v] ∧
      (((T = 77 ∨ T = 80 ∨ T = 84) ∧ p = []) ∨
       (T = 47 ∧ S b ∧ ∃ u, w.cell? ⟨b, 0, none⟩ = some u ∧ Tree d w S u p) ∨
       (T = 50 ∧ S b ∧ ∃ sv us, w.cell? ⟨b, 0, none⟩ = some sv ∧ SliceOf w S sv us ∧ Forest (Tree d w S) us p) ∨
       (T = 53 ∧ S b ∧ ∃ sv us, w.cell? ⟨b, 2, none⟩ = some sv ∧ SliceOf w S sv us ∧ Forest (Tree d w S) us p) ∨
       (T = 56 ∧ S b ∧ ∃ fv pv sv us rows pf pp ps, w.cell? ⟨b, 0, none⟩ = some fv ∧ w.cell? ⟨b, 1, none⟩ = some pv ∧ w.cell? ⟨b, 3, none⟩ = some sv ∧
         ((fv = .nilIface ∧ pf = []) ∨ Tree d w S fv pf) ∧ SliceOf w S pv us ∧ Forest (Tree d w S) us pp ∧ StepsOf w S sv rows ∧ Forest (Tree d w S) rows.flatten ps ∧ p = pf ++ (pp ++ ps)))

theorem orTurn {A B C : Prop} (f : B → C) : A ∨ B → A ∨ C
  | .inl h => .inl h
  | .inr h => .inr (f h)
theorem Forest.turn {T T' : Value → List Value → Prop} (h : ∀ u p, T u p → T' u p) : ∀ {us post}, Forest T us post → Forest T' us post
  | [], _, hf => hf
  | _ :: _, _, ⟨p, q, h1, h2, h3⟩ => ⟨p, q, h _ _ h1, Forest.turn h h2, h3⟩
theorem Forest.append {T : Value → List Value → Prop} : ∀ {us vs p q}, Forest T us p → Forest T vs q → Forest T (us ++ vs) (p ++ q)
  | [], _, _, _, h1, h2 => by cases h1; exact h2
  | _ :: _, _, _, _, ⟨p1, p2, h1, h2, h3⟩, h4 => ⟨p1, _, h1, Forest.append h2 h4, by rw [h3, List.append_assoc]⟩
theorem Forest.split {T : Value → List Value → Prop} : ∀ {us vs p}, Forest T (us ++ vs) p → ∃ q r, Forest T us q ∧ Forest T vs r ∧ p = q ++ r
  | [], _, p, h => ⟨[], p, rfl, h, rfl⟩
  | _ :: us, _, _, ⟨p1, p2, h1, h2, h3⟩ => by
    obtain ⟨q, r, h4, h5, h6⟩ := Forest.split (us := us) h2
    exact ⟨p1 ++ q, r, ⟨p1, q, h1, h4, rfl⟩, h5, by rw [h3, h6, List.append_assoc]⟩
theorem Forest.one {T : Value → List Value → Prop} {u : Value} {p : List Value} (h : T u p) : Forest T [u] p := ⟨p, [], h, rfl, by simp⟩

theorem Forest.next {T : Value → List Value → Prop} {us p : List Value} {n : Nat} {u : Value} (h : Forest T (us.drop n) p) (hu : us[n]? = some u) : ∃ q1 q2, p = q1 ++ q2 ∧ T u q1 ∧ Forest T (us.drop (n + 1)) q2 := by
  obtain ⟨hn, rfl⟩ := List.getElem?_eq_some_iff.1 hu
  rw [List.drop_eq_getElem_cons hn] at h
  obtain ⟨q1, q2, h1, h2, h3⟩ := h
  exact ⟨q1, q2, h3, h1, h2⟩
theorem Forest.row {T : Value → List Value → Prop} {rows : List (List Value)} {p : List Value} {n : Nat} {us : List Value} (h : Forest T ((rows.drop n).flatten) p) (hu : rows[n]? = some us) : ∃ r1 r2, p = r1 ++ r2 ∧ Forest T us r1 ∧ Forest T ((rows.drop (n + 1)).flatten) r2 := by
  obtain ⟨hn, rfl⟩ := List.getElem?_eq_some_iff.1 hu
  rw [List.drop_eq_getElem_cons hn, List.flatten_cons] at h
  obtain ⟨r1, r2, h1, h2, h3⟩ := Forest.split h
  exact ⟨r1, r2, h3, h1, h2⟩
theorem Tree.pos {d : Nat} {w : World} {S : Nat → Prop} {v : Value} {p : List Value} (h : Tree d w S v p) : 1 ≤ p.length := by
  cases d with
  | zero => exact False.elim h
  | succ d => obtain ⟨T, b, q, _, rfl, _⟩ := h; simp
theorem Forest.len {d : Nat} {w : World} {S : Nat → Prop} : ∀ {us p}, Forest (Tree d w S) us p → us.length ≤ p.length
  | [], _, _ => Nat.zero_le _
  | _ :: us, _, ⟨p, q, h1, h2, h3⟩ => by
    have := Forest.len (us := us) h2
    have := h1.pos
    rw [h3]; simp; omega

section
variable {w w' : World} {S S' : Nat → Prop}
theorem SliceOf.mono (hS : ∀ b, S b → S' b) (hw : ∀ b o, S b → w'.cell? ⟨b, o, none⟩ = w.cell? ⟨b, o, none⟩) {sv : Value} {us : List Value} (h : SliceOf w S sv us) : SliceOf w' S' sv us := by
  obtain ⟨a, cap, h1, h2⟩ := h
  refine ⟨a, cap, h1, fun i u hi => ?_⟩
  obtain ⟨g, off, h3, h4, h5⟩ := h2 i u hi
  exact ⟨g, off, h3, hS g h4, by rw [hw g _ h4]; exact h5⟩
theorem StepsOf.mono (hS : ∀ b, S b → S' b) (hw : ∀ b o, S b → w'.cell? ⟨b, o, none⟩ = w.cell? ⟨b, o, none⟩) {sv : Value} {rows : List (List Value)} (h : StepsOf w S sv rows) : StepsOf w' S' sv rows := by
  obtain ⟨a, cap, h0, h1, h2⟩ := h
  refine ⟨a, cap, h0, h1, fun i us hi => ?_⟩
  obtain ⟨g, off, pv, h3, h4, h5, h6⟩ := h2 i us hi
  exact ⟨g, off, pv, h3, hS g h4, by rw [hw g _ h4]; exact h5, h6.mono hS hw⟩
theorem Tree.mono (hS : ∀ b, S b → S' b) (hw : ∀ b o, S b → w'.cell? ⟨b, o, none⟩ = w.cell? ⟨b, o, none⟩) : ∀ {d d' : Nat} {v : Value} {p : List Value}, d ≤ d' → Tree d w S v p → Tree d' w' S' v p
  | 0, _, _, _, _, h => False.elim h
  | d + 1, 0, _, _, hd, _ => by omega
  | d + 1, d' + 1, v, p, hd, h => by
    obtain ⟨T, b, q, hv, hp, h⟩ := h
    refine ⟨T, b, q, hv, hp, ?_⟩
    have ih : ∀ u r, Tree d w S u r → Tree d' w' S' u r := fun u r hu => Tree.mono hS hw (by omega) hu
    rcases h with h | ⟨rfl, hb, u, h1, h2⟩ | ⟨rfl, hb, sv, us, h1, h2, h3⟩ | ⟨rfl, hb, sv, us, h1, h2, h3⟩ | ⟨rfl, hb, fv, pv, sv, us, rows, pf, pp, ps, h1, h2, h3, h4, h5, h6, h7, h8, h9⟩
    · exact .inl h
    · exact .inr (.inl ⟨rfl, hS b hb, u, by rw [hw b _ hb]; exact h1, ih _ _ h2⟩)
    · exact .inr (.inr (.inl ⟨rfl, hS b hb, sv, us, by rw [hw b _ hb]; exact h1, h2.mono hS hw, h3.turn ih⟩))
    · exact .inr (.inr (.inr (.inl ⟨rfl, hS b hb, sv, us, by rw [hw b _ hb]; exact h1, h2.mono hS hw, h3.turn ih⟩)))
    · exact .inr (.inr (.inr (.inr ⟨rfl, hS b hb, fv, pv, sv, us, rows, pf, pp, ps, by rw [hw b _ hb]; exact h1, by rw [hw b _ hb]; exact h2, by rw [hw b _ hb]; exact h3, orTurn (ih _ _) h4, h5.mono hS hw, h6.turn ih, h7.mono hS hw, h8.turn ih, h9⟩)))
end
/-- Every node is a pointer under one of the seven types. -/
def Node (v : Value) : Prop := ∃ T b, (T = 77 ∨ T = 80 ∨ T = 84 ∨ T = 47 ∨ T = 50 ∨ T = 53 ∨ T = 56) ∧ v = .iface T (.pointer (some ⟨b, 0, none⟩))
end Go.Proofs.Ybulkbucw
