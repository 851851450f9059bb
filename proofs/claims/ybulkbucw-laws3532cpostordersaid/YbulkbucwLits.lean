/-
  THE C LAW's STRUCT LITERALS OF TYPE Step, each as one step of the walk.
-/
import Derived.Test.YbulkbucwFin
import Derived.Great.BuildSlice
import Derived.KernelRfl
namespace Go.Proofs.Ybulkbucw
open Go.RowKit

/-- What lies under an interface value of the nodes' kind. -/
theorem Forest.shape {d : Nat} {w : World} {S : Nat → Prop} : ∀ {us p : List Value}, Forest (Tree d w S) us p → ∀ u ∈ us, ∃ T b, u = .iface T (.pointer (some ⟨b, 0, none⟩))
  | [], _, _, u, hu => by cases hu
  | _ :: us, _, ⟨p, q, h1, h2, _⟩, u, hu => by
    rcases List.mem_cons.1 hu with rfl | h
    · cases d with
      | zero => exact False.elim h1
      | succ d => obtain ⟨T, b, _, h, _⟩ := h1; exact ⟨T, b, h⟩
    · exact Forest.shape (us := us) h2 u h

theorem Yba.info64 : (Yba.prog.info? 64).map (fun i => (i.zero, i.size, i.bytes)) = some (some (.agg #[.string ⟨#[]⟩, .string ⟨#[]⟩, .string ⟨#[]⟩, .string ⟨#[]⟩, .string ⟨#[]⟩, .slice none 0 0, .int .i64 0, .int .i64 0]), 8, 120) := by kernel_rfl
theorem built0 : Yba.prog.built 64 [] = some #[.string ⟨#[]⟩, .string ⟨#[]⟩, .string ⟨#[]⟩, .string ⟨#[]⟩, .string ⟨#[]⟩, .slice none 0 0, .int .i64 0, .int .i64 0] := by kernel_rfl
theorem built1 (a : Option Addr) (n c : Nat) : Yba.prog.built 64 [(2, .slice a n c)] = some #[.string ⟨#[]⟩, .string ⟨#[]⟩, .string ⟨#[]⟩, .string ⟨#[]⟩, .string ⟨#[]⟩, .slice a n c, .int .i64 0, .int .i64 0] := by kernel_rfl

/-- 'Step{}'. -/
theorem wp_build0 {o : Oper} {a : Act} {w : World} {K : Act → World → Prop} {Q : Exit → Act → World → Prop} (ho : o.op = .build 64 #[])
    (h : K (a.put o.dst (.agg #[.string ⟨#[]⟩, .string ⟨#[]⟩, .string ⟨#[]⟩, .string ⟨#[]⟩, .string ⟨#[]⟩, .slice none 0 0, .int .i64 0, .int .i64 0])) w) : o.wp Yba.prog a w K Q := by
  have e : ((#[] : Array (Nat × Operand)).map fun (y : Nat × Operand) => (y.1, a.eval y.2)).toList = [] := by simp
  refine wp_build 64 #[] ho ?_ ?_
  · rw [e, built0]; rfl
  · rw [e, built0]; exact h
theorem wpList_build0 {ops : Array Oper} {rest : List Oper} {o : Oper} {a : Act} {w : World} {Q : Exit → Act → World → Prop} (hg : o.guard = none) (ho : o.op = .build 64 #[])
    (h : wpList Yba.prog ops Q rest (a.put o.dst (.agg #[.string ⟨#[]⟩, .string ⟨#[]⟩, .string ⟨#[]⟩, .string ⟨#[]⟩, .string ⟨#[]⟩, .slice none 0 0, .int .i64 0, .int .i64 0])) w) : wpList Yba.prog ops Q (o :: rest) a w :=
  wpList_plain hg fun _ hK => wp_build0 ho (hK _ _ h)
/-- 'Step{Predicates: xs}'. -/
theorem wp_build1 {o : Oper} {a : Act} {w : World} {K : Act → World → Prop} {Q : Exit → Act → World → Prop} (x : Operand) (ho : o.op = .build 64 #[(2, x)]) (p : Option Addr) (n c : Nat) (hx : a.eval x = .slice p n c)
    (h : K (a.put o.dst (.agg #[.string ⟨#[]⟩, .string ⟨#[]⟩, .string ⟨#[]⟩, .string ⟨#[]⟩, .string ⟨#[]⟩, .slice p n c, .int .i64 0, .int .i64 0])) w) : o.wp Yba.prog a w K Q := by
  have e : (#[(2, x)].map fun (y : Nat × Operand) => (y.1, a.eval y.2)).toList = [(2, Value.slice p n c)] := by simp [hx]
  refine wp_build 64 #[(2, x)] ho ?_ ?_
  · show (Yba.prog.built 64 (#[(2, x)].map fun (y : Nat × Operand) => (y.1, a.eval y.2)).toList).isSome = true
    rw [e, built1]; rfl
  · show K (a.put o.dst (.agg ((Yba.prog.built 64 (#[(2, x)].map fun (y : Nat × Operand) => (y.1, a.eval y.2)).toList).getD #[]))) w
    rw [e, built1]; exact h
/-- '[]Step{s}'. -/
theorem wp_row1 {o : Oper} {a : Act} {w : World} {K : Act → World → Prop} {Q : Exit → Act → World → Prop} (x : Operand) (ho : o.op = .buildSlice 57 1 #[(0, x)]) (v0 v1 v2 v3 v4 v5 v6 v7 : Value) (hx : a.eval x = .agg #[v0, v1, v2, v3, v4, v5, v6, v7])
    (h : K (a.put o.dst (.slice (some ⟨w.heap.size, 0, none⟩) 1 1)) (w.alloc (.cells #[v0, v1, v2, v3, v4, v5, v6, v7] 64))) : o.wp Yba.prog a w K Q := by
  obtain ⟨i6, hi6, hy0, hy1, hy2⟩ := info_parts Yba.info64
  refine wp_buildSlice 57 64 1 #[(0, x)] ho #[v0, v1, v2, v3, v4, v5, v6, v7] i6 _ Yba.underlying57 hi6 hy0 (by rw [hy1]; decide) (by rw [hy1]; decide) ?_ h
  have e : (#[(0, x)].map fun (y : Nat × Operand) => (y.1, a.eval y.2)).toList = [(0, Value.agg #[v0, v1, v2, v3, v4, v5, v6, v7])] := by simp [hx]
  show Instr.fill _ _ (#[(0, x)].map fun (y : Nat × Operand) => (y.1, a.eval y.2)).toList = _
  rw [e, hy1]
  kernel_rfl
theorem wpList_row1 {ops : Array Oper} {rest : List Oper} {o : Oper} {a : Act} {w : World} {Q : Exit → Act → World → Prop} (hg : o.guard = none) (x : Operand) (ho : o.op = .buildSlice 57 1 #[(0, x)]) (v0 v1 v2 v3 v4 v5 v6 v7 : Value) (hx : a.eval x = .agg #[v0, v1, v2, v3, v4, v5, v6, v7])
    (h : wpList Yba.prog ops Q rest (a.put o.dst (.slice (some ⟨w.heap.size, 0, none⟩) 1 1)) (w.alloc (.cells #[v0, v1, v2, v3, v4, v5, v6, v7] 64))) : wpList Yba.prog ops Q (o :: rest) a w :=
  wpList_plain hg fun _ hK => wp_row1 x ho v0 v1 v2 v3 v4 v5 v6 v7 hx (hK _ _ h)

/-- 'Oper.wp', under a name that the walk does not lay open. -/
def Elsewise (o : Oper) (a : Act) (w : World) (K : Act → World → Prop) (Q : Exit → Act → World → Prop) : Prop := o.wp Yba.prog a w K Q
theorem wp_build1_eq (dst : Option Tmp) (ty : TypeId) (pos : String) (after : Array Edge) (guard : Option (Nat × Bool)) (x : Operand) (a : Act) (w : World) (K : Act → World → Prop) (Q : Exit → Act → World → Prop) :
    Oper.wp Yba.prog ⟨dst, .build 64 #[(2, x)], ty, pos, after, guard⟩ a w K Q = (match a.eval x with
      | .slice p n c => K (a.put dst (.agg #[.string ⟨#[]⟩, .string ⟨#[]⟩, .string ⟨#[]⟩, .string ⟨#[]⟩, .string ⟨#[]⟩, .slice p n c, .int .i64 0, .int .i64 0])) w
      | _ => Elsewise ⟨dst, .build 64 #[(2, x)], ty, pos, after, guard⟩ a w K Q) := by
  split
  · rename_i p n c hx
    have e : (#[(2, x)].map fun (y : Nat × Operand) => (y.1, a.eval y.2)).toList = [(2, Value.slice p n c)] := by simp [hx]
    have r : (Instr.build 64 (#[(2, x)].map fun (y : Nat × Operand) => (y.1, a.eval y.2))).run Yba.prog w = .ok (.agg #[.string ⟨#[]⟩, .string ⟨#[]⟩, .string ⟨#[]⟩, .string ⟨#[]⟩, .string ⟨#[]⟩, .slice p n c, .int .i64 0, .int .i64 0]) w := run_build w 64 _ _ (by rw [e]; exact built1 p n c)
    unfold Oper.wp execOp
    simp only [Sem.run_bind]
    rw [r]
    rfl
  · rfl
theorem wp_row1_eq (dst : Option Tmp) (ty : TypeId) (pos : String) (after : Array Edge) (guard : Option (Nat × Bool)) (x : Operand) (a : Act) (w : World) (K : Act → World → Prop) (Q : Exit → Act → World → Prop) :
    Oper.wp Yba.prog ⟨dst, .buildSlice 57 1 #[(0, x)], ty, pos, after, guard⟩ a w K Q = (match a.eval x with
      | .agg ⟨[v0, v1, v2, v3, v4, v5, v6, v7]⟩ => K (a.put dst (.slice (some ⟨w.heap.size, 0, none⟩) 1 1)) (w.alloc (.cells #[v0, v1, v2, v3, v4, v5, v6, v7] 64))
      | _ => Elsewise ⟨dst, .buildSlice 57 1 #[(0, x)], ty, pos, after, guard⟩ a w K Q) := by
  split
  · rename_i v0 v1 v2 v3 v4 v5 v6 v7 hx
    obtain ⟨i6, hi6, hy0, hy1, hy2⟩ := info_parts Yba.info64
    have e : (#[(0, x)].map fun (y : Nat × Operand) => (y.1, a.eval y.2)).toList = [(0, Value.agg #[v0, v1, v2, v3, v4, v5, v6, v7])] := by simp [hx]
    have r : (Instr.buildSlice 57 1 (#[(0, x)].map fun (y : Nat × Operand) => (y.1, a.eval y.2))).run Yba.prog w = .ok (.slice (some ⟨w.heap.size, 0, none⟩) 1 1) (w.alloc (.cells #[v0, v1, v2, v3, v4, v5, v6, v7] 64)) := by
      refine run_buildSlice w 57 64 1 _ #[v0, v1, v2, v3, v4, v5, v6, v7] i6 _ Yba.underlying57 hi6 hy0 (by rw [hy1]; decide) (by rw [hy1]; decide) ?_
      rw [e, hy1]
      kernel_rfl
    unfold Oper.wp execOp
    simp only [Sem.run_bind]
    rw [r]
    rfl
  · rfl

/-- The next step of a Path node: its literal laid, then the append's grounds. -/
theorem next_own {wr wx : World} {pb : Nat} {iv fv pv stv : Value} {us pus : List Value} {rows : List (List Value)} {xs : List Value} (h : PathAt wr wx pb iv us fv pv pus stv rows xs) (o1 o2 : Obj) : ((wx.alloc o1).alloc o2).drew.ownsRow (pb + 1) 64 8 stv rows.length xs := ((h.st.1.alloc o1).alloc o2).drew
theorem next_base {wr wx : World} {pb : Nat} {iv fv pv stv : Value} {us pus : List Value} {rows : List (List Value)} {xs : List Value} (h : PathAt wr wx pb iv us fv pv pus stv rows xs) (o1 o2 : Obj) : pb + 1 ≤ ((wx.alloc o1).alloc o2).drew.heap.size := by have := h.b2; simp; omega
theorem next_size (wx : World) (o1 o2 : Obj) : ((wx.alloc o1).alloc o2).drew.heap.size = wx.heap.size + 1 + 1 := by simp
theorem next_news (wx : World) (o1 : Obj) (cs : Array Value) (ty : TypeId) (j : Nat) (v : Value) (hj : cs.toList[j]? = some v) : ((wx.alloc o1).alloc (.cells cs ty)).drew.cell? ((⟨wx.heap.size + 1, 0, none⟩ : Addr).add j) = some v := by
  have h : ((wx.alloc o1).alloc (.cells cs ty)).drew.heap[wx.heap.size + 1]? = some (.cells cs ty (0, 0)) := by
    have := heap_alloc_new (wx.alloc o1) (.cells cs ty)
    rw [show (wx.alloc o1).heap.size = wx.heap.size + 1 by simp] at this
    exact this
  exact World.news_of_block h j v hj
theorem next_one (a : Option Addr) (n c : Nat) : ∀ v ∈ ([.string ⟨#[]⟩, .string ⟨#[]⟩, .string ⟨#[]⟩, .string ⟨#[]⟩, .string ⟨#[]⟩, .slice a n c, .int .i64 0, .int .i64 0] : List Value), v.oneCell' = true := by
  intro v hv
  simp only [List.mem_cons, List.not_mem_nil, or_false] at hv
  rcases hv with rfl | rfl | rfl | rfl | rfl | rfl | rfl | rfl <;> rfl
/-- The next step, appended and stored. -/
theorem PathAt.next {wr wx w' : World} {pb g cap : Nat} {iv fv pv stv u : Value} {us pus : List Value} {rows : List (List Value)} {xs : List Value} (h : PathAt wr wx pb iv us fv pv pus stv rows xs)
    (hown : w'.ownsRow (pb + 1) 64 8 (.slice (some ⟨g, 0, none⟩) (rows.length + 1) cap) (rows.length + 1) (xs ++ [.string ⟨#[]⟩, .string ⟨#[]⟩, .string ⟨#[]⟩, .string ⟨#[]⟩, .string ⟨#[]⟩, .slice (some ⟨wx.heap.size, 0, none⟩) 1 1, .int .i64 0, .int .i64 0]))
    (hg : (((wx.alloc (.cells #[u] 45)).alloc (.cells #[.string ⟨#[]⟩, .string ⟨#[]⟩, .string ⟨#[]⟩, .string ⟨#[]⟩, .string ⟨#[]⟩, .slice (some ⟨wx.heap.size, 0, none⟩) 1 1, .int .i64 0, .int .i64 0] 64)).drew).grownBy w' stv.ownBlock) (hat : stv.ownBlock = some g ∨ g = wx.heap.size + 1 + 1) :
    w'.cell? ⟨pb, 3, none⟩ = some stv ∧ w'.frozen? ⟨pb, 3, none⟩ = false ∧
    PathAt wr (w'.setCell ⟨pb, 3, none⟩ (.slice (some ⟨g, 0, none⟩) (rows.length + 1) cap)) pb iv us fv pv pus (.slice (some ⟨g, 0, none⟩) (rows.length + 1) cap) (rows ++ [[u]]) (xs ++ [.string ⟨#[]⟩, .string ⟨#[]⟩, .string ⟨#[]⟩, .string ⟨#[]⟩, .string ⟨#[]⟩, .slice (some ⟨wx.heap.size, 0, none⟩) 1 1, .int .i64 0, .int .i64 0]) := by
  refine h.step (wy := ((wx.alloc (.cells #[u] 45)).alloc (.cells #[.string ⟨#[]⟩, .string ⟨#[]⟩, .string ⟨#[]⟩, .string ⟨#[]⟩, .string ⟨#[]⟩, .slice (some ⟨wx.heap.size, 0, none⟩) 1 1, .int .i64 0, .int .i64 0] 64)).drew) (us' := [u]) (pvi := .slice (some ⟨wx.heap.size, 0, none⟩) 1 1) ?_ ?_ rfl hown hg ?_
  · exact Below.drew (((Below.refl _ _).alloc (Nat.le_refl _) _).alloc (by simp) _)
  · refine ⟨_, 1, rfl, fun i v hi => ⟨wx.heap.size, 0, rfl, ⟨Nat.le_refl _, by simp; omega⟩, ?_⟩⟩
    cases i with
    | zero =>
      simp only [List.getElem?_cons_zero, Option.some.injEq] at hi
      subst hi
      show ((wx.alloc (.cells #[u] 45)).alloc _).cell? ⟨wx.heap.size, 0 + 0, none⟩ = some u
      rw [World.cell?_alloc_lt _ _ _ (by simp)]
      simp
    | succ i => simp at hi
  · simpa using hat
end Go.Proofs.Ybulkbucw
