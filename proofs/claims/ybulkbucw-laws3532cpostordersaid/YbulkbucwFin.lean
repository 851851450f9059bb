/-
  THE C LAW BEHIND THE SCRIPT: one node on the stack, the list of all nodes beside it.
-/
import Derived.Test.YbulkbucwPathAt
import Derived.Test.YbulkbucwPath
import Derived.LaidEql
namespace Go.Proofs.Ybulkbucw
open Go.RowKit

theorem cell_own {w : World} {B e n cap g : Nat} {xs : List Value} (h : w.ownsRow B e 1 (.slice (some ⟨g, 0, none⟩) n cap) n xs) (j : Nat) (u : Value) (hj : xs[j]? = some u) : w.cell? ⟨g, j, none⟩ = some u := by
  have := h.cells (g := g) rfl j u hj
  rw [Addr.add_lit] at this
  simpa using this

/-- Every node of a tree is one of the seven kinds. -/
theorem Forest.nodes {T : Value → List Value → Prop} (hT : ∀ u p, T u p → ∀ x ∈ p, Node x) : ∀ {us p}, Forest T us p → ∀ x ∈ p, Node x
  | [], _, h, x, hx => by rw [show _ = [] from h] at hx; cases hx
  | _ :: us, _, ⟨p, q, h1, h2, h3⟩, x, hx => by
    rw [h3, List.mem_append] at hx
    rcases hx with hx | hx
    · exact hT _ _ h1 x hx
    · exact Forest.nodes hT (us := us) h2 x hx
theorem Tree.nodes : ∀ {d : Nat} {w : World} {S : Nat → Prop} {v : Value} {p : List Value}, Tree d w S v p → ∀ x ∈ p, Node x
  | 0, _, _, _, _, h, _, _ => False.elim h
  | d + 1, w, S, v, post, h, x, hx => by
    have ih : ∀ u p, Tree d w S u p → ∀ x ∈ p, Node x := fun u p hu => Tree.nodes hu
    obtain ⟨T, b, p, rfl, rfl, h⟩ := h
    rw [List.mem_append] at hx
    rcases h with ⟨h, rfl⟩ | ⟨rfl, hb, u, h1, h2⟩ | ⟨rfl, hb, sv, us, h1, h2, h3⟩ | ⟨rfl, hb, sv, us, h1, h2, h3⟩ | ⟨rfl, hb, fv, pv, sv, us, rows, pf, pp, ps, h1, h2, h3, h4, h5, h6, h7, h8, rfl⟩
    · rcases hx with hx | hx
      · cases hx
      · simp at hx; subst hx; exact ⟨T, b, by rcases h with h | h | h <;> simp [h], rfl⟩
    · rcases hx with hx | hx
      · exact ih _ _ h2 x hx
      · simp at hx; subst hx; exact ⟨47, b, by simp, rfl⟩
    · rcases hx with hx | hx
      · exact Forest.nodes ih h3 x hx
      · simp at hx; subst hx; exact ⟨50, b, by simp, rfl⟩
    · rcases hx with hx | hx
      · exact Forest.nodes ih h3 x hx
      · simp at hx; subst hx; exact ⟨53, b, by simp, rfl⟩
    · rcases hx with hx | hx
      · rw [List.mem_append, List.mem_append] at hx
        rcases hx with hx | hx | hx
        · rcases h4 with ⟨_, rfl⟩ | h4
          · cases hx
          · exact ih _ _ h4 x hx
        · exact Forest.nodes ih h6 x hx
        · exact Forest.nodes ih h8 x hx
      · simp at hx; subst hx; exact ⟨56, b, by simp, rfl⟩

/-- Two equal nodes do not differ. -/
theorem neq_same {v : Value} (h : Node v) (w : World) : (binOp .neq 45 v v).run Yba.prog w = .ok (.bool false) w := by
  obtain ⟨T, b, hT, rfl⟩ := h
  have key : ∀ (tp te : TypeId) (i j : TypeInfo), Yba.prog.underlying tp = some (.pointer te) → Yba.prog.info? tp = some i → i.comparable = true → Yba.prog.info? te = some j →
      (binOp .neq 45 (.iface tp (.pointer (some ⟨b, 0, none⟩))) (.iface tp (.pointer (some ⟨b, 0, none⟩)))).run Yba.prog w = .ok (.bool false) w := by
    intro tp te i j h1 h2 h3 h4
    simp only [binOp]
    simp [Op.equal, Op.maxDepth, run_equalIn_iface_ptr_same w 9998 ⟨b, 0, none⟩ Yba.underlying45 h1 h2 h3 h4]
  have key2 : ∀ tp te : TypeId, Yba.prog.underlying tp = some (.pointer te) → (Yba.prog.info? tp).map (·.comparable) = some true → (Yba.prog.info? te).isSome = true →
      (binOp .neq 45 (.iface tp (.pointer (some ⟨b, 0, none⟩))) (.iface tp (.pointer (some ⟨b, 0, none⟩)))).run Yba.prog w = .ok (.bool false) w := by
    intro tp te h1 h2 h3
    obtain ⟨i, e2, e3⟩ := Option.map_eq_some_iff.1 h2
    obtain ⟨j, e4⟩ := Option.isSome_iff_exists.1 h3
    exact key tp te i j h1 e2 e3 e4
  rcases hT with rfl | rfl | rfl | rfl | rfl | rfl | rfl
  · exact key2 77 79 (by kernel_rfl) (by kernel_rfl) (by kernel_rfl)
  · exact key2 80 83 (by kernel_rfl) (by kernel_rfl) (by kernel_rfl)
  · exact key2 84 86 (by kernel_rfl) (by kernel_rfl) (by kernel_rfl)
  · exact key2 47 49 (by kernel_rfl) (by kernel_rfl) (by kernel_rfl)
  · exact key2 50 52 (by kernel_rfl) (by kernel_rfl) (by kernel_rfl)
  · exact key2 53 55 (by kernel_rfl) (by kernel_rfl) (by kernel_rfl)
  · exact key2 56 59 (by kernel_rfl) (by kernel_rfl) (by kernel_rfl)

/-- Behind the script: one node u on the stack, whose nodes are the list. -/
structure End (w w2 : World) (g : Nat) (cv u : Value) (cs : List Value) : Prop where
  below : Below w.heap.size w w2
  co : w2.ownsRow w.heap.size 45 1 cv cs.length cs
  top : w2.cell? ⟨g, 0, none⟩ = some u
  tree : ∃ d, Tree d w2 (fun b => b < w2.heap.size) u cs
  
theorem Below.drewN' {B q : Nat} {a w : World} (h : Below B a w) : Below B a (w.drewN q) := ⟨h.os, h.tape, h.output, h.size, h.block⟩
theorem cell_third (w : World) (o1 o2 : Obj) (v : Value) (ty : TypeId) (j : Nat) (u : Value) (hu : [v][j]? = some u) : (((w.alloc o1).alloc o2).alloc (.cells #[v] ty)).cell? ((⟨w.heap.size + 1 + 1, 0, none⟩ : Addr).add j) = some u := by
  cases j with
  | zero =>
    simp at hu
    subst hu
    have e : w.heap.size + 1 + 1 = ((w.alloc o1).alloc o2).heap.size := by simp
    rw [Addr.add_lit, e, World.cell?_alloc_new]
    rfl
  | succ j => simp at hu

theorem St.end1 {w wr : World} {k g cap : Nat} {cv u : Value} {cs : List Value} (h : St w wr k (.slice (some ⟨g, 0, none⟩) 1 cap) cv [u] cs) : End w wr g cv u cs := by
  refine ⟨h.below, h.co, cell_own h.so 0 u rfl, k, ?_⟩
  obtain ⟨p, q, h1, h2, h3⟩ := h.forest
  have : q = [] := h2
  subst this
  rw [List.append_nil] at h3
  subst h3
  exact h1.mono (fun b hb => hb.1) (fun _ _ _ => rfl) (Nat.le_refl _)

/-- An Operation over the whole stack; a new stack of it alone; it behind the list. -/
theorem St.end2 {w wr w1 w4 : World} {k g4 cap4 : Nat} {sv cv iv : Value} {cells : Array Value} {ss cs : List Value} {o3 : Obj} (hc0 : cells[0]? = some iv) (h : St w wr k sv cv ss cs) (hb : Below wr.heap.size wr w1) (hown : w1.ownsRow wr.heap.size 45 1 iv ss.length ss)
    (h4 : w4.ownsRow w.heap.size 45 1 (.slice (some ⟨g4, 0, none⟩) (cs.length + 1) cap4) (cs.length + 1) (cs ++ [.iface 50 (.pointer (some ⟨w1.heap.size, 0, none⟩))]))
    (hg : (((w1.alloc (.cells cells 52)).alloc (.cells #[.iface 50 (.pointer (some ⟨w1.heap.size, 0, none⟩))] 45)).alloc o3).grownBy w4 cv.ownBlock) :
    End w w4 (w1.heap.size + 1) (.slice (some ⟨g4, 0, none⟩) (cs.length + 1) cap4) (.iface 50 (.pointer (some ⟨w1.heap.size, 0, none⟩))) (cs ++ [.iface 50 (.pointer (some ⟨w1.heap.size, 0, none⟩))]) := by
  have hz1 := h.below.size
  have hz2 := hb.size
  have hz4 : w1.heap.size + 3 ≤ w4.heap.size := by have := hg.size; simpa using this
  have cvlt : ∀ b, cv.ownBlock = some b → w.heap.size ≤ b ∧ b < wr.heap.size := fun b hb => h.co.lt b hb
  have new : ∀ b o, wr.heap.size ≤ b → b < w1.heap.size → w4.cell? ⟨b, o, none⟩ = w1.cell? ⟨b, o, none⟩ := fun b o h1 h2 => by
    rw [hg.cell_far ⟨b, o, none⟩ (by simp; omega) (fun e => by have := cvlt b e.symm; omega)]
    rw [World.cell?_alloc_lt _ _ _ (by simp; omega), World.cell?_alloc_lt _ _ _ (by simp; omega), World.cell?_alloc_lt _ _ _ h2]
  have old : ∀ b o, Free wr sv cv b → w4.cell? ⟨b, o, none⟩ = wr.cell? ⟨b, o, none⟩ := fun b o hf => by
    have hlt := hf.1
    rw [hg.cell_far ⟨b, o, none⟩ (by simp; omega) (fun e => hf.2.2 e.symm)]
    rw [World.cell?_alloc_lt _ _ _ (by simp; omega), World.cell?_alloc_lt _ _ _ (by simp; omega), World.cell?_alloc_lt _ _ _ (by simp; omega)]
    exact hb.cell (p := ⟨b, o, none⟩) hlt
  have c0 : w4.cell? ⟨w1.heap.size, 0, none⟩ = some iv := by
    rw [hg.cell_far ⟨w1.heap.size, 0, none⟩ (by simp; omega) (fun e => by have := cvlt w1.heap.size e.symm; omega)]
    rw [World.cell?_alloc_lt _ _ _ (by simp; omega), World.cell?_alloc_lt _ _ _ (by simp), World.cell?_alloc_new]
    exact hc0
  refine ⟨?_, by rw [List.length_append, List.length_singleton]; exact h4, ?_, k + 1, ?_⟩
  · refine Below.grown (((((h.below.trans (hb.mono hz1)).alloc (by omega) _).alloc (by simp; omega) _).alloc (by simp; omega) _)) hg (by simp; omega) fun b hb => (cvlt b hb).1
  · rw [hg.cell_far ⟨w1.heap.size + 1, 0, none⟩ (by simp) (fun e => by have := cvlt (w1.heap.size + 1) e.symm; omega)]
    rw [World.cell?_alloc_lt _ _ _ (by simp)]
    have : (w1.alloc (.cells cells 52)).heap.size = w1.heap.size + 1 := by simp
    rw [← this]
    simp
  · refine ⟨50, w1.heap.size, cs, rfl, rfl, .inr (.inr (.inl ⟨rfl, by show _ < _; omega, iv, ss, c0, ?_, h.forest.turn fun u p hu => hu.mono (fun b hf => ?_) (fun b o hf => old b o hf) (Nat.le_refl _)⟩))⟩
    · obtain ⟨a, cap, rfl, hf⟩ := own_form hown
      refine ⟨a, cap, rfl, fun i u hi => ?_⟩
      rcases hf with ⟨_, h0, _⟩ | ⟨g, rfl, h1, h2⟩
      · have := (List.getElem?_eq_some_iff.1 hi).1; omega
      · refine ⟨g, 0, rfl, by show _ < _; omega, ?_⟩
        rw [new g _ h1 h2, Nat.zero_add]
        exact cell_own hown i u hi
    · have := hf.1
      show _ < _
      omega
end Go.Proofs.Ybulkbucw
