/-
  THE C LAW's STACK AND LIST OF MADE NODES, as they lie in memory while the script runs.
-/
import Derived.Test.YbulkbucwLeaf
import Derived.Deep.AppendLies
import Derived.Lib.SmallJoins
namespace Go.Proofs.Ybulkbucw
open Go.RowKit

theorem grown_of_below {wr w2 : World} (hb : Below wr.heap.size wr w2) : wr.grownBy w2 none := ⟨hb.os, hb.tape, hb.output, hb.size, fun k hk _ => hb.block k hk⟩
theorem below_of_grown {wr w2 : World} (hg : wr.grownBy w2 none) : Below wr.heap.size wr w2 := ⟨hg.os, hg.tape, hg.output, hg.size, fun k hk => hg.block k hk (by simp)⟩
theorem own_later {wr w2 : World} {B e n sz : Nat} {v : Value} {xs : List Value} (h : wr.ownsRow B e sz v n xs) (hb : Below wr.heap.size wr w2) : w2.ownsRow B e sz v n xs :=
  h.kept (grown_of_below hb) (by cases v.ownBlock <;> simp)
/-- 's[:j]' of a slice that the call owns. -/
theorem own_cut {w : World} {B e g n cap : Nat} {xs : List Value} (h : w.ownsRow B e 1 (.slice (some ⟨g, 0, none⟩) n cap) n xs) (j : Nat) (hj : j ≤ n) : w.ownsRow B e 1 (.slice (some ⟨g, 0, none⟩) j cap) j (xs.take j) := by
  have hl := h.1
  refine ⟨by simp; omega, ?_⟩
  rcases h.2 with ⟨h', _⟩ | ⟨g', cap', cur, h', hb, hg, h1, h2, h3, h4⟩
  · simp at h'
  · simp only [Value.slice.injEq, Option.some.injEq, Addr.mk.injEq, and_true, true_and] at h'
    obtain ⟨rfl, rfl⟩ := h'
    exact .inr ⟨g, cap, cur, rfl, hb, hg, by omega, h2, h3, by rw [← h4, List.take_take]; congr 1; omega⟩
/-- What an owned slice looks like. -/
theorem own_form {w : World} {B e n sz : Nat} {v : Value} {xs : List Value} (h : w.ownsRow B e sz v n xs) : ∃ a cap, v = .slice a n cap ∧ ((a = none ∧ n = 0 ∧ cap = 0) ∨ ∃ g, a = some ⟨g, 0, none⟩ ∧ B ≤ g ∧ g < w.heap.size) := by
  rcases h.2 with ⟨rfl, rfl⟩ | ⟨g, cap, cur, rfl, hb, hg, _⟩
  · exact ⟨none, 0, rfl, .inl ⟨rfl, rfl, rfl⟩⟩
  · exact ⟨_, cap, rfl, .inr ⟨g, rfl, hb, (Array.getElem?_eq_some_iff.1 hg).1⟩⟩

/-- A block that neither the stack's nor the list's array is. -/
def Free (w : World) (sv cv : Value) (b : Nat) : Prop := b < w.heap.size ∧ sv.ownBlock ≠ some b ∧ cv.ownBlock ≠ some b

/-- The script's state behind k steps: the stack ss, the nodes made so far cs: one is the other's nodes, the inner before the outer. -/
structure St (w wr : World) (k : Nat) (sv cv : Value) (ss cs : List Value) : Prop where
  below : Below w.heap.size w wr
  so : wr.ownsRow w.heap.size 45 1 sv ss.length ss
  co : wr.ownsRow w.heap.size 45 1 cv cs.length cs
  apart : sv.ownBlock = none ∨ sv.ownBlock ≠ cv.ownBlock
  forest : Forest (Tree k wr (Free wr sv cv)) ss cs
  len : cs.length = k
/-- The same, a new node e in hand. -/
structure Mid (w w2 : World) (k : Nat) (sv cv e : Value) (ss cs : List Value) : Prop where
  below : Below w.heap.size w w2
  so : w2.ownsRow w.heap.size 45 1 sv ss.length ss
  co : w2.ownsRow w.heap.size 45 1 cv cs.length cs
  apart : sv.ownBlock = none ∨ sv.ownBlock ≠ cv.ownBlock
  forest : Forest (Tree (k + 1) w2 (Free w2 sv cv)) (ss ++ [e]) (cs ++ [e])
  len : cs.length = k
/-- The same, the node pushed. -/
structure Mid2 (w w4 : World) (k : Nat) (sv cv e : Value) (ss cs : List Value) : Prop where
  below : Below w.heap.size w w4
  so : w4.ownsRow w.heap.size 45 1 sv (ss ++ [e]).length (ss ++ [e])
  co : w4.ownsRow w.heap.size 45 1 cv cs.length cs
  apart : sv.ownBlock ≠ cv.ownBlock
  forest : Forest (Tree (k + 1) w4 (Free w4 sv cv)) (ss ++ [e]) (cs ++ [e])
  len : cs.length = k

theorem St.start (w : World) : St w w 0 (.slice none 0 0) (.slice none 0 0) [] [] :=
  ⟨Below.refl _ _, World.ownsRow_nil _ _ _ _, World.ownsRow_nil _ _ _ _, .inl rfl, rfl, rfl⟩

/-- From the state to the next node: what was popped is under it. -/
theorem St.mid {w wr w2 : World} {k : Nat} {sv sv' cv e : Value} {ss ss' us cs : List Value} (h : St w wr k sv cv ss cs) (hb : Below wr.heap.size wr w2) (hss : ss = ss' ++ us) (hown : wr.ownsRow w.heap.size 45 1 sv' ss'.length ss') (hblk : sv'.ownBlock = sv.ownBlock)
    (ht : ∀ c2, Forest (Tree k w2 (Free w2 sv' cv)) us c2 → Tree (k + 1) w2 (Free w2 sv' cv) e (c2 ++ [e])) : Mid w w2 k sv' cv e ss' cs := by
  have hs := h.below.size
  have mono : ∀ b, Free wr sv cv b → Free w2 sv' cv b := fun b hb' => ⟨Nat.lt_of_lt_of_le hb'.1 hb.size, by rw [hblk]; exact hb'.2.1, hb'.2.2⟩
  have same : ∀ b o, Free wr sv cv b → w2.cell? ⟨b, o, none⟩ = wr.cell? ⟨b, o, none⟩ := fun b o hb' => hb.cell (p := ⟨b, o, none⟩) hb'.1
  refine ⟨h.below.trans (hb.mono hs), own_later hown hb, own_later h.co hb, by rw [hblk]; exact h.apart, ?_, h.len⟩
  have hf := h.forest
  rw [hss] at hf
  obtain ⟨c1, c2, h1, h2, h3⟩ := Forest.split hf
  rw [h3, List.append_assoc]
  have h1' := h1.turn fun u p hu => Tree.mono (d' := k + 1) mono same (Nat.le_succ k) hu
  have h2' := h2.turn fun u p hu => Tree.mono (d' := k) mono same (Nat.le_refl k) hu
  exact h1'.append (Forest.one (ht c2 h2'))

theorem free_push {w2 w4 : World} {sv cv : Value} {g n cap : Nat} {o : Obj} (hg : (w2.alloc o).grownBy w4 sv.ownBlock) (hat : sv.ownBlock = some g ∨ g = w2.heap.size + 1) :
    (∀ b, Free w2 sv cv b → Free w4 (.slice (some ⟨g, 0, none⟩) n cap) cv b) ∧ ∀ b o', Free w2 sv cv b → w4.cell? ⟨b, o', none⟩ = w2.cell? ⟨b, o', none⟩ := by
  have hz : w2.heap.size + 1 ≤ w4.heap.size := by have := hg.size; simpa using this
  refine ⟨fun b hb => ⟨by have := hb.1; omega, ?_, hb.2.2⟩, fun b o' hb => ?_⟩
  · intro e
    have e' : g = b := by simpa [Value.ownBlock] using e
    rcases hat with h | h
    · exact hb.2.1 (by rw [h, e'])
    · have := hb.1; omega
  · rw [hg.cell_far ⟨b, o', none⟩ (by have := hb.1; simp; omega) (fun e => hb.2.1 e.symm)]
    exact World.cell?_alloc_lt _ _ _ hb.1

/-- The push onto the stack. -/
theorem Mid.push {w w2 w4 : World} {k g cap : Nat} {sv cv e : Value} {ss cs : List Value} {o : Obj} (h : Mid w w2 k sv cv e ss cs) (hown : w4.ownsRow w.heap.size 45 1 (.slice (some ⟨g, 0, none⟩) (ss.length + 1) cap) (ss.length + 1) (ss ++ [e]))
    (hg : (w2.alloc o).grownBy w4 sv.ownBlock) (hat : sv.ownBlock = some g ∨ g = w2.heap.size + 1) : Mid2 w w4 k (.slice (some ⟨g, 0, none⟩) (ss.length + 1) cap) cv e ss cs := by
  obtain ⟨mono, same⟩ := free_push (cv := cv) (n := ss.length + 1) (cap := cap) hg hat
  have hs := h.below.size
  refine ⟨?_, ?_, ?_, ?_, h.forest.turn fun u p hu => Tree.mono mono same (Nat.le_refl _) hu, h.len⟩
  · exact (h.below.alloc hs o).grown hg (by simp; omega) fun k hk => (h.so.lt k hk).1
  · rw [List.length_append, List.length_singleton]; exact hown
  · refine (h.co.alloc o).kept hg ?_
    rcases h.apart with h' | h'
    · cases hc : cv.ownBlock with
      | none => exact .inl rfl
      | some b => exact .inr (by rw [h']; simp)
    · exact .inr (fun e => h' e.symm)
  · intro e'
    have hc : cv.ownBlock = some g := by rw [← e']; rfl
    have hlt := h.co.lt g hc
    rcases hat with h' | h'
    · rcases h.apart with h'' | h''
      · rw [h''] at h'; cases h'
      · exact h'' (by rw [h', hc])
    · omega
theorem free_push2 {w4 w6 : World} {sv cv : Value} {g n cap : Nat} {o : Obj} (hg : (w4.alloc o).grownBy w6 cv.ownBlock) (hat : cv.ownBlock = some g ∨ g = w4.heap.size + 1) :
    (∀ b, Free w4 sv cv b → Free w6 sv (.slice (some ⟨g, 0, none⟩) n cap) b) ∧ ∀ b o', Free w4 sv cv b → w6.cell? ⟨b, o', none⟩ = w4.cell? ⟨b, o', none⟩ := by
  have hz : w4.heap.size + 1 ≤ w6.heap.size := by have := hg.size; simpa using this
  refine ⟨fun b hb => ⟨by have := hb.1; omega, hb.2.1, ?_⟩, fun b o' hb => ?_⟩
  · intro e
    have e' : g = b := by simpa [Value.ownBlock] using e
    rcases hat with h | h
    · exact hb.2.2 (by rw [h, e'])
    · have := hb.1; omega
  · rw [hg.cell_far ⟨b, o', none⟩ (by have := hb.1; simp; omega) (fun e => hb.2.2 e.symm)]
    exact World.cell?_alloc_lt _ _ _ hb.1
/-- The push onto the list of made nodes: the next state. -/
theorem Mid2.push {w w4 w6 : World} {k g cap : Nat} {sv cv e : Value} {ss cs : List Value} {o : Obj} (h : Mid2 w w4 k sv cv e ss cs) (hown : w6.ownsRow w.heap.size 45 1 (.slice (some ⟨g, 0, none⟩) (cs.length + 1) cap) (cs.length + 1) (cs ++ [e]))
    (hg : (w4.alloc o).grownBy w6 cv.ownBlock) (hat : cv.ownBlock = some g ∨ g = w4.heap.size + 1) : St w w6 (k + 1) sv (.slice (some ⟨g, 0, none⟩) (cs.length + 1) cap) (ss ++ [e]) (cs ++ [e]) := by
  obtain ⟨mono, same⟩ := free_push2 (sv := sv) (n := cs.length + 1) (cap := cap) hg hat
  have hs := h.below.size
  refine ⟨?_, ?_, ?_, ?_, h.forest.turn fun u p hu => Tree.mono mono same (Nat.le_refl _) hu, by simp [h.len]⟩
  · exact (h.below.alloc hs o).grown hg (by simp; omega) fun k hk => (h.co.lt k hk).1
  · exact (h.so.alloc o).kept hg (.inr h.apart)
  · rw [List.length_append, List.length_singleton]; exact hown
  · right
    intro e'
    have hc : sv.ownBlock = some g := by rw [e']; rfl
    have hlt := h.so.lt g hc
    rcases hat with h' | h'
    · exact h.apart (by rw [hc, h'])
    · omega

theorem own_cap {w : World} {B e n m sz cap : Nat} {a : Option Addr} {xs : List Value} (h : w.ownsRow B e sz (.slice a m cap) n xs) : n ≤ cap := by
  rcases h.2 with ⟨e, h0⟩ | ⟨g, cap', cur, e, _, _, h1, _⟩
  · omega
  · cases e; exact h1
/-- The stack's array, where the stack is not empty. -/
theorem St.arr {w wr : World} {k cap n : Nat} {a : Option Addr} {cv : Value} {ss cs : List Value} (h : St w wr k (.slice a n cap) cv ss cs) (hn : n = ss.length) (hp : 0 < ss.length) : ∃ g, a = some ⟨g, 0, none⟩ ∧ w.heap.size ≤ g ∧ g < wr.heap.size ∧ ss.length ≤ cap ∧ ∀ (j : Nat) (u : Value), ss[j]? = some u → wr.cell? ⟨g, j, none⟩ = some u := by
  have hcap := own_cap h.so
  obtain ⟨a', cap', e, hf⟩ := own_form h.so
  cases e
  rcases hf with ⟨_, h0, _⟩ | ⟨g, rfl, h1, h2⟩
  · omega
  · refine ⟨g, rfl, h1, h2, hcap, fun j u hu => ?_⟩
    have := h.so.cells (g := g) rfl j u hu
    rw [Addr.add_lit] at this
    simpa using this
/-- A copy of the popped part, as the node holds it. -/
theorem slice_of_own {w1 w2 : World} {S : Nat → Prop} {B : Nat} {iv : Value} {us : List Value} (h : w1.ownsRow B 45 1 iv us.length us) (hb : Below w1.heap.size w1 w2) (hS : ∀ g, B ≤ g → g < w1.heap.size → S g) : SliceOf w2 S iv us := by
  obtain ⟨a, cap, rfl, hf⟩ := own_form h
  refine ⟨a, cap, rfl, fun i u hi => ?_⟩
  rcases hf with ⟨_, h0, _⟩ | ⟨g, rfl, h1, h2⟩
  · have := (List.getElem?_eq_some_iff.1 hi).1; omega
  · refine ⟨g, 0, rfl, hS g h1 h2, ?_⟩
    rw [hb.cell (p := ⟨g, 0 + i, none⟩) h2]
    have := h.cells (g := g) rfl i u hi
    rw [Addr.add_lit] at this
    simpa using this
/-- A block that was made since is free. -/
theorem free_new {w wr w2 : World} {k : Nat} {sv sv' cv : Value} {ss cs : List Value} (h : St w wr k sv cv ss cs) (hblk : sv'.ownBlock = sv.ownBlock) {g : Nat} (h1 : wr.heap.size ≤ g) (h2 : g < w2.heap.size) : Free w2 sv' cv g :=
  ⟨h2, fun e => by rw [hblk] at e; have := (h.so.lt g e).2; omega, fun e => by have := (h.co.lt g e).2; omega⟩

/-- A Negation over the popped node. -/
theorem St.neg {w wr : World} {k g caps : Nat} {cv u : Value} {ss cs : List Value} (h : St w wr k (.slice (some ⟨g, 0, none⟩) (ss.length + 1) caps) cv (ss ++ [u]) cs) :
    Mid w (wr.alloc (.cells #[u] 49)) k (.slice (some ⟨g, 0, none⟩) ss.length caps) cv (.iface 47 (.pointer (some ⟨wr.heap.size, 0, none⟩))) ss cs := by
  have hso : wr.ownsRow w.heap.size 45 1 (.slice (some ⟨g, 0, none⟩) (ss.length + 1) caps) (ss.length + 1) (ss ++ [u]) := by have := h.so; simpa using this
  have hcut := own_cut hso ss.length (by omega)
  rw [List.take_left] at hcut
  refine h.mid (us := [u]) ((Below.refl _ _).alloc (Nat.le_refl _) _) rfl hcut rfl (fun c2 hc2 => ?_)
  obtain ⟨p, q, h1, h2, h3⟩ := hc2
  have : q = [] := h2
  subst this
  rw [List.append_nil] at h3
  subst h3
  refine ⟨47, wr.heap.size, c2, rfl, rfl, .inr (.inl ⟨rfl, free_new h rfl (Nat.le_refl _) (by simp), u, by simp, h1⟩)⟩

/-- An Operation or a Call over the popped nodes. -/
theorem St.many {w wr w1 : World} {k g caps T c : Nat} {cv iv : Value} {cells : Array Value} {ty : TypeId} {ss us cs : List Value} (h : St w wr k (.slice (some ⟨g, 0, none⟩) (ss.length + us.length) caps) cv (ss ++ us) cs)
    (hb : Below wr.heap.size wr w1) (hown : w1.ownsRow wr.heap.size 45 1 iv us.length us) (hc : cells[c]? = some iv) (hT : (T = 50 ∧ c = 0) ∨ (T = 53 ∧ c = 2)) :
    Mid w (w1.alloc (.cells cells ty)) k (.slice (some ⟨g, 0, none⟩) ss.length caps) cv (.iface T (.pointer (some ⟨w1.heap.size, 0, none⟩))) ss cs := by
  have hso : wr.ownsRow w.heap.size 45 1 (.slice (some ⟨g, 0, none⟩) (ss.length + us.length) caps) (ss.length + us.length) (ss ++ us) := by have := h.so; simpa using this
  have hcut := own_cut hso ss.length (by omega)
  rw [List.take_left] at hcut
  have hz := hb.size
  have hb2 : Below wr.heap.size wr (w1.alloc (.cells cells ty)) := hb.alloc hz _
  refine h.mid (us := us) hb2 rfl hcut rfl (fun c2 hc2 => ?_)
  have hS : SliceOf (w1.alloc (.cells cells ty)) (Free (w1.alloc (.cells cells ty)) (.slice (some ⟨g, 0, none⟩) ss.length caps) cv) iv us :=
    slice_of_own hown ((Below.refl _ _).alloc (Nat.le_refl _) _) (fun g' h1 h2 => free_new h rfl h1 (by simp; omega))
  have hF : Free (w1.alloc (.cells cells ty)) (.slice (some ⟨g, 0, none⟩) ss.length caps) cv w1.heap.size := free_new h rfl hz (by simp)
  rcases hT with ⟨rfl, rfl⟩ | ⟨rfl, rfl⟩
  · exact ⟨50, w1.heap.size, c2, rfl, rfl, .inr (.inr (.inl ⟨rfl, hF, iv, us, by rw [World.cell?_alloc_new]; exact hc, hS, hc2⟩))⟩
  · exact ⟨53, w1.heap.size, c2, rfl, rfl, .inr (.inr (.inr (.inl ⟨rfl, hF, iv, us, by rw [World.cell?_alloc_new]; exact hc, hS, hc2⟩)))⟩
end Go.Proofs.Ybulkbucw
