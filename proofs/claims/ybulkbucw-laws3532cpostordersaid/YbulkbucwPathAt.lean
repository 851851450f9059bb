/-
  A PATH NODE WHILE THE C LAW BUILDS IT: its block, the copy of the popped nodes, its steps.
-/
import Derived.Test.YbulkbucwStack
namespace Go.Proofs.Ybulkbucw
open Go.RowKit

theorem grown_set (w : World) (a : Addr) (u : Value) : w.grownBy (w.setCell a u) (some a.block) :=
  ⟨rfl, rfl, rfl, by simp [World.setCell], fun k _ hne => Below.heap_setCell _ _ _ _ (fun e => hne (by rw [e]))⟩
theorem set_other {w : World} {p q : Addr} {x : Value} (h : p ≠ q) : (w.setCell p x).cell? q = w.cell? q := World.cell?_setCell_other _ _ _ _ h
theorem ne_blk {a b i j : Nat} (h : a ≠ b) : (⟨a, i, none⟩ : Addr) ≠ ⟨b, j, none⟩ := fun e => h (congrArg Addr.block e)
theorem ne_off {a b i j : Nat} (h : i ≠ j) : (⟨a, i, none⟩ : Addr) ≠ ⟨b, j, none⟩ := fun e => h (congrArg Addr.off e)

/-- Behind the node's block, and not the steps' array. -/
def Beyond (wx : World) (pb : Nat) (stv : Value) (b : Nat) : Prop := pb < b ∧ b < wx.heap.size ∧ stv.ownBlock ≠ some b
/-- The steps as they lie: of each its predicates. -/
def StepRows (wx : World) (pb : Nat) (stv : Value) (rows : List (List Value)) (xs : List Value) : Prop :=
  wx.ownsRow (pb + 1) 64 8 stv rows.length xs ∧ ∀ (i : Nat) (us : List Value), rows[i]? = some us → ∃ pvi, xs[i * 8 + 5]? = some pvi ∧ SliceOf wx (Beyond wx pb stv) pvi us

structure PathAt (wr wx : World) (pb : Nat) (iv : Value) (us : List Value) (fv pv : Value) (pus : List Value) (stv : Value) (rows : List (List Value)) (xs : List Value) : Prop where
  below : Below wr.heap.size wr wx
  items : wx.ownsRow wr.heap.size 45 1 iv us.length us
  ilt : ∀ g, iv.ownBlock = some g → g < pb
  b1 : wr.heap.size ≤ pb
  b2 : pb < wx.heap.size
  c0 : wx.cell? ⟨pb, 0, none⟩ = some fv
  c1 : wx.cell? ⟨pb, 1, none⟩ = some pv
  c3 : wx.cell? ⟨pb, 3, none⟩ = some stv
  z0 : wx.frozen? ⟨pb, 0, none⟩ = false
  z1 : wx.frozen? ⟨pb, 1, none⟩ = false
  z3 : wx.frozen? ⟨pb, 3, none⟩ = false
  st : StepRows wx pb stv rows xs
  pr : SliceOf wx (fun b => wr.heap.size ≤ b ∧ b < pb) pv pus

theorem PathAt.start {wr w1 : World} {iv : Value} {us : List Value} (hI : w1.ownsRow wr.heap.size 45 1 iv us.length us) (hB : Below wr.heap.size wr w1) (v2 v4 : Value) :
    PathAt wr (w1.alloc (.cells #[.nilIface, .slice none 0 0, v2, .slice none 0 0, v4] 59)) w1.heap.size iv us .nilIface (.slice none 0 0) [] (.slice none 0 0) [] [] := by
  refine ⟨hB.alloc hB.size _, hI.alloc _, fun g hg => (hI.lt g hg).2, hB.size, by simp, by simp, by simp, by simp, by simp, by simp, by simp, ⟨World.ownsRow_nil _ _ _ _, fun i us hi => by simp at hi⟩, none, 0, rfl, fun i u hi => by simp at hi⟩

/-- A store into the node's own cell 0 or 1. -/
theorem PathAt.set0 {wr wx : World} {pb : Nat} {iv fv pv stv v : Value} {us pus : List Value} {rows : List (List Value)} {xs : List Value} (h : PathAt wr wx pb iv us fv pv pus stv rows xs) :
    PathAt wr (wx.setCell ⟨pb, 0, none⟩ v) pb iv us v pv pus stv rows xs := by
  have hz : (wx.setCell ⟨pb, 0, none⟩ v).heap.size = wx.heap.size := by simp [World.setCell]
  have far : ∀ b o, b ≠ pb → (wx.setCell ⟨pb, 0, none⟩ v).cell? ⟨b, o, none⟩ = wx.cell? ⟨b, o, none⟩ := fun b o hb => set_other (ne_blk (Ne.symm hb))
  refine ⟨h.below.setCell h.b1 _, ?_, h.ilt, h.b1, by rw [hz]; exact h.b2, ?_, ?_, ?_, by rw [World.frozen?_setCell]; exact h.z0, by rw [World.frozen?_setCell]; exact h.z1, by rw [World.frozen?_setCell]; exact h.z3, ⟨?_, ?_⟩, ?_⟩
  · refine h.items.kept (grown_set wx ⟨pb, 0, none⟩ v) (.inr fun e => ?_)
    have := h.ilt pb e; omega
  · exact World.cell?_setCell_same _ _ _ h.c0
  · rw [set_other (ne_off (by omega))]; exact h.c1
  · rw [set_other (ne_off (by omega))]; exact h.c3
  · exact ownsRow_setCell_below h.st.1 (by simp) _
  · intro i us' hi
    obtain ⟨pvi, h1, h2⟩ := h.st.2 i us' hi
    exact ⟨pvi, h1, h2.mono (fun b hb => ⟨hb.1, by rw [hz]; exact hb.2.1, hb.2.2⟩) (fun b o hb => far b o (by have := hb.1; omega))⟩
  · exact h.pr.mono (fun _ hb => hb) (fun b o hb => far b o (by have := hb.2; omega))

theorem PathAt.set1 {wr wx : World} {pb : Nat} {iv fv pv stv v : Value} {us pus pus' : List Value} {rows : List (List Value)} {xs : List Value} (h : PathAt wr wx pb iv us fv pv pus stv rows xs) (hv : SliceOf wx (fun b => wr.heap.size ≤ b ∧ b < pb) v pus') :
    PathAt wr (wx.setCell ⟨pb, 1, none⟩ v) pb iv us fv v pus' stv rows xs := by
  have hz : (wx.setCell ⟨pb, 1, none⟩ v).heap.size = wx.heap.size := by simp [World.setCell]
  have far : ∀ b o, b ≠ pb → (wx.setCell ⟨pb, 1, none⟩ v).cell? ⟨b, o, none⟩ = wx.cell? ⟨b, o, none⟩ := fun b o hb => set_other (ne_blk (Ne.symm hb))
  refine ⟨h.below.setCell h.b1 _, ?_, h.ilt, h.b1, by rw [hz]; exact h.b2, ?_, ?_, ?_, by rw [World.frozen?_setCell]; exact h.z0, by rw [World.frozen?_setCell]; exact h.z1, by rw [World.frozen?_setCell]; exact h.z3, ⟨?_, ?_⟩, ?_⟩
  · refine h.items.kept (grown_set wx ⟨pb, 1, none⟩ v) (.inr fun e => ?_)
    have := h.ilt pb e; omega
  · rw [set_other (ne_off (by omega))]; exact h.c0
  · exact World.cell?_setCell_same _ _ _ h.c1
  · rw [set_other (ne_off (by omega))]; exact h.c3
  · exact ownsRow_setCell_below h.st.1 (by simp) _
  · intro i us' hi
    obtain ⟨pvi, h1, h2⟩ := h.st.2 i us' hi
    exact ⟨pvi, h1, h2.mono (fun b hb => ⟨hb.1, by rw [hz]; exact hb.2.1, hb.2.2⟩) (fun b o hb => far b o (by have := hb.1; omega))⟩
  · exact hv.mono (fun _ hb => hb) (fun b o hb => far b o (by have := hb.2; omega))

/-- One step more, appended and stored. -/
theorem PathAt.step {wr wx wy w' : World} {pb g' cap' : Nat} {iv fv pv stv pvi : Value} {us us' pus news : List Value} {rows : List (List Value)} {xs : List Value} (h : PathAt wr wx pb iv us fv pv pus stv rows xs)
    (hy : Below wx.heap.size wx wy) (hs : SliceOf wy (fun b => wx.heap.size ≤ b ∧ b < wy.heap.size) pvi us') (hn : news[5]? = some pvi)
    (hown : w'.ownsRow (pb + 1) 64 8 (.slice (some ⟨g', 0, none⟩) (rows.length + 1) cap') (rows.length + 1) (xs ++ news)) (hg : wy.grownBy w' stv.ownBlock) (hat : stv.ownBlock = some g' ∨ g' = wy.heap.size) :
    w'.cell? ⟨pb, 3, none⟩ = some stv ∧ w'.frozen? ⟨pb, 3, none⟩ = false ∧
    PathAt wr (w'.setCell ⟨pb, 3, none⟩ (.slice (some ⟨g', 0, none⟩) (rows.length + 1) cap')) pb iv us fv pv pus (.slice (some ⟨g', 0, none⟩) (rows.length + 1) cap') (rows ++ [us']) (xs ++ news) := by
  have hy1 := hy.size
  have hg1 := hg.size
  have b2 := h.b2
  have b1 := h.b1
  have hl : xs.length = rows.length * 8 := h.st.1.1
  have npb : some pb ≠ stv.ownBlock := fun e => by have := (h.st.1.lt pb e.symm).1; omega
  have gpb : g' ≠ pb := fun e => by
    rcases hat with h' | h'
    · exact npb (by rw [h', e])
    · omega
  have blk : ∀ b, b < wx.heap.size → stv.ownBlock ≠ some b → w'.heap[b]? = wx.heap[b]? := fun b hb hne => by
    rw [hg.block b (by omega) (fun e => hne e.symm), hy.block b hb]
  have cell : ∀ b o, b < wx.heap.size → stv.ownBlock ≠ some b → w'.cell? ⟨b, o, none⟩ = wx.cell? ⟨b, o, none⟩ := fun b o hb hne => World.cell?_of_block (w := wx) (a := ⟨b, o, none⟩) (blk b hb hne)
  have fz : ∀ o, w'.frozen? ⟨pb, o, none⟩ = wx.frozen? ⟨pb, o, none⟩ := fun o => World.frozen?_of_block (w := wx) (a := ⟨pb, o, none⟩) (blk pb b2 (fun e => npb e.symm))
  have c3 : w'.cell? ⟨pb, 3, none⟩ = some stv := by rw [cell pb 3 b2 (fun e => npb e.symm)]; exact h.c3
  have hz : (w'.setCell ⟨pb, 3, none⟩ (.slice (some ⟨g', 0, none⟩) (rows.length + 1) cap')).heap.size = w'.heap.size := by simp [World.setCell]
  have far : ∀ b o, b ≠ pb → (w'.setCell ⟨pb, 3, none⟩ (.slice (some ⟨g', 0, none⟩) (rows.length + 1) cap')).cell? ⟨b, o, none⟩ = w'.cell? ⟨b, o, none⟩ := fun b o hb => set_other (ne_blk (Ne.symm hb))
  refine ⟨c3, by rw [fz]; exact h.z3, ?_, ?_, h.ilt, h.b1, by rw [hz]; omega, ?_, ?_, World.cell?_setCell_same _ _ _ c3, by rw [World.frozen?_setCell, fz]; exact h.z0, by rw [World.frozen?_setCell, fz]; exact h.z1, by rw [World.frozen?_setCell, fz]; exact h.z3, ⟨?_, ?_⟩, h.pr.mono (fun _ hb => hb) (fun b o hb => by rw [far b o (by have := hb.2; omega), cell b o (by have := hb.2; omega) (fun e => by have := (h.st.1.lt b e).1; have := hb.2; omega)])⟩
  · refine Below.setCell (p := ⟨pb, 3, none⟩) ?_ h.b1 _
    refine (h.below.trans (hy.mono (by omega))).grown hg (by omega) fun b hb => ?_
    have := (h.st.1.lt b hb).1
    omega
  · have k1 : wy.ownsRow wr.heap.size 45 1 iv us.length us := own_later h.items hy
    have k2 : w'.ownsRow wr.heap.size 45 1 iv us.length us := k1.kept hg (by
      cases hi : iv.ownBlock with
      | none => exact .inl rfl
      | some b => exact .inr fun e => by have := h.ilt b hi; have := (h.st.1.lt b e.symm).1; omega)
    exact k2.kept (grown_set w' ⟨pb, 3, none⟩ _) (.inr fun e => by have := h.ilt pb e; omega)
  · rw [set_other (ne_off (by omega)), cell pb 0 b2 (fun e => npb e.symm)]; exact h.c0
  · rw [set_other (ne_off (by omega)), cell pb 1 b2 (fun e => npb e.symm)]; exact h.c1
  · rw [List.length_append, List.length_singleton]
    exact ownsRow_setCell_below hown (by simp) _
  · intro i u' hi
    have old : ∀ b, Beyond wx pb stv b → Beyond (w'.setCell ⟨pb, 3, none⟩ (.slice (some ⟨g', 0, none⟩) (rows.length + 1) cap')) pb (.slice (some ⟨g', 0, none⟩) (rows.length + 1) cap') b := fun b hb => by
      refine ⟨hb.1, by rw [hz]; have := hb.2.1; omega, fun e => ?_⟩
      have e' : g' = b := by simpa [Value.ownBlock] using e
      rcases hat with h' | h'
      · exact hb.2.2 (by rw [h', e'])
      · have := hb.2.1; omega
    by_cases hlti : i < rows.length
    · rw [List.getElem?_append_left hlti] at hi
      obtain ⟨pvj, h1, h2⟩ := h.st.2 i u' hi
      refine ⟨pvj, by rw [List.getElem?_append_left (by rw [hl]; omega)]; exact h1, h2.mono old fun b o hb => ?_⟩
      rw [far b o (by have := hb.1; omega), cell b o hb.2.1 hb.2.2]
    · have ei : i = rows.length := by
        have := (List.getElem?_eq_some_iff.1 hi).1
        simp at this
        omega
      subst ei
      rw [List.getElem?_append_right (Nat.le_refl _)] at hi
      simp at hi
      subst hi
      have m1 : ∀ b, (wx.heap.size ≤ b ∧ b < wy.heap.size) → Beyond (w'.setCell ⟨pb, 3, none⟩ (.slice (some ⟨g', 0, none⟩) (rows.length + 1) cap')) pb (.slice (some ⟨g', 0, none⟩) (rows.length + 1) cap') b := fun b hb => by
        refine ⟨by have := hb.1; omega, by rw [hz]; omega, fun e => ?_⟩
        have e' : g' = b := by simpa [Value.ownBlock] using e
        rcases hat with h' | h'
        · have := (h.st.1.lt g' h').2; have := hb.1; omega
        · have := hb.2; omega
      have m2 : ∀ b o, (wx.heap.size ≤ b ∧ b < wy.heap.size) → (w'.setCell ⟨pb, 3, none⟩ (.slice (some ⟨g', 0, none⟩) (rows.length + 1) cap')).cell? ⟨b, o, none⟩ = wy.cell? ⟨b, o, none⟩ := fun b o hb => by
        rw [far b o (by have := hb.1; omega)]
        refine World.cell?_of_block (w := wy) (a := ⟨b, o, none⟩) (hg.block b hb.2 fun e => ?_)
        have := (h.st.1.lt b e.symm).2
        have := hb.1
        omega
      exact ⟨pvi, by rw [List.getElem?_append_right (by rw [hl]; omega), hl, show rows.length * 8 + 5 - rows.length * 8 = 5 by omega]; exact hn, hs.mono m1 m2⟩

/-- The node is whole: it goes up to the stack. -/
theorem St.path {w wr wx : World} {k g caps pb j h : Nat} {cv iv fv pv stv : Value} {ss us cs : List Value} {rows : List (List Value)} {xs : List Value} (hst : St w wr k (.slice (some ⟨g, 0, none⟩) (ss.length + us.length) caps) cv (ss ++ us) cs)
    (P : PathAt wr wx pb iv us fv pv ((us.drop j).take h) stv rows xs) (hf : (j = 0 ∧ fv = .nilIface) ∨ (j = 1 ∧ us[0]? = some fv)) (hr : rows.flatten = us.drop (j + h)) (hr2 : rows.length ≤ 100) (hs : ∃ a cap, stv = .slice a rows.length cap) :
    Mid w wx k (.slice (some ⟨g, 0, none⟩) ss.length caps) cv (.iface 56 (.pointer (some ⟨pb, 0, none⟩))) ss cs := by
  have hso : wr.ownsRow w.heap.size 45 1 (.slice (some ⟨g, 0, none⟩) (ss.length + us.length) caps) (ss.length + us.length) (ss ++ us) := by have := hst.so; simpa using this
  have hcut := own_cut hso ss.length (by omega)
  rw [List.take_left] at hcut
  refine hst.mid (us := us) P.below rfl hcut rfl (fun c2 hc2 => ?_)
  have b1 := P.b1
  have b2 := P.b2
  have split : us = us.take j ++ ((us.drop j).take h ++ us.drop (j + h)) := by
    rw [← List.drop_drop, List.take_append_drop, List.take_append_drop]
  have hc2' := hc2
  rw [split] at hc2'
  obtain ⟨pf, r, h1, h2, rfl⟩ := Forest.split hc2'
  obtain ⟨pp, ps, h3, h4, rfl⟩ := Forest.split h2
  have free : ∀ b, wr.heap.size ≤ b → b < wx.heap.size → Free wx (.slice (some ⟨g, 0, none⟩) ss.length caps) cv b := fun b h1 h2 => free_new hst rfl h1 h2
  refine ⟨56, pb, pf ++ (pp ++ ps), rfl, rfl, .inr (.inr (.inr (.inr ⟨rfl, free pb b1 b2, fv, pv, stv, (us.drop j).take h, rows, pf, pp, ps, P.c0, P.c1, P.c3, ?_, P.pr.mono (fun b hb => free b hb.1 (by omega)) (fun _ _ _ => rfl), h3, ?_, by rw [hr]; exact h4, rfl⟩)))⟩
  · rcases hf with ⟨rfl, rfl⟩ | ⟨rfl, h0⟩
    · left; refine ⟨rfl, ?_⟩; have : pf = [] := h1; exact this
    · right
      cases us with
      | nil => simp at h0
      | cons u us =>
        simp at h0
        subst h0
        obtain ⟨p, q, g1, g2, g3⟩ := h1
        have : q = [] := g2
        subst this
        rw [List.append_nil] at g3
        rw [g3]; exact g1
  · obtain ⟨a, cap, rfl⟩ := hs
    refine ⟨a, cap, hr2, rfl, fun i us' hi => ?_⟩
    obtain ⟨pvi, g1, g2⟩ := P.st.2 i us' hi
    have hpos : 0 < rows.length := by have := (List.getElem?_eq_some_iff.1 hi).1; omega
    obtain ⟨a', cap', e, hfm⟩ := own_form P.st.1
    cases e
    rcases hfm with ⟨_, h0, _⟩ | ⟨gs, rfl, hg1, hg2⟩
    · omega
    · refine ⟨gs, 0, pvi, rfl, free gs (by omega) hg2, ?_, g2.mono (fun b hb => free b (by have := hb.1; omega) hb.2.1) (fun _ _ _ => rfl)⟩
      have := P.st.1.cells (g := gs) rfl (i * 8 + 5) pvi g1
      rw [Addr.add_lit] at this
      simpa using this

/-- 'items[j:j+h]' as the node's predicates. -/
theorem pred_slice {wx : World} {B pb gi capi c j h : Nat} {us : List Value} (hI : wx.ownsRow B 45 1 (.slice (some ⟨gi, 0, none⟩) us.length capi) us.length us) (h1 : B ≤ gi) (h2 : gi < pb) (hj : j + h ≤ us.length) :
    SliceOf wx (fun b => B ≤ b ∧ b < pb) (.slice (some ⟨gi, j, none⟩) h c) ((us.drop j).take h) := by
  have hl : ((us.drop j).take h).length = h := by simp; omega
  refine ⟨some ⟨gi, j, none⟩, c, by rw [hl], fun i u hi => ⟨gi, j, rfl, ⟨h1, h2⟩, ?_⟩⟩
  have hi' : us[j + i]? = some u := by
    have hlt := (List.getElem?_eq_some_iff.1 hi).1
    rw [hl] at hlt
    rw [List.getElem?_take_of_lt hlt, List.getElem?_drop] at hi
    exact hi
  have := hI.cells (g := gi) rfl (j + i) u hi'
  rw [Addr.add_lit] at this
  simpa using this
theorem rows_next {us : List Value} {rows : List (List Value)} {b j : Nat} {u : Value} (h : rows.flatten = (us.drop b).take (j - b)) (hb : b ≤ j) (hu : us[j]? = some u) : (rows ++ [[u]]).flatten = (us.drop b).take (j + 1 - b) := by
  rw [List.flatten_append, h, show j + 1 - b = (j - b) + 1 by omega, List.take_add_one]
  have e : (us.drop b)[j - b]? = some u := by rw [List.getElem?_drop, show b + (j - b) = j by omega]; exact hu
  rw [e]
  simp
theorem rows_all {us : List Value} {rows : List (List Value)} {b j : Nat} (h : rows.flatten = (us.drop b).take (j - b)) (hj : us.length ≤ j) : rows.flatten = us.drop b := by
  rw [h, List.take_of_length_le (by simp; omega)]
end Go.Proofs.Ybulkbucw
