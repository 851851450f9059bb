/-
  THE B LAW's union of one set: copied, sorted, merged.
-/
import Derived.Test.YbulkbucwBSorted
import Derived.Test.YbulkbucwBPlain
import Derived.Deep.RegionLaw
namespace Go.Proofs.Ybulkbucw
open Go.RowKit

/-- 'append' looks at its second argument's type for one thing: is it an integer (a make in hand)? -/
theorem append_types (ty : TypeId) (p : Option Addr) (n c : Nat) (x : Value) (w : World) : (Builtin.append_ #[23, 24] ty #[.slice p n c, x]).run Yba.prog w = (Builtin.append_ #[23, 23] ty #[.slice p n c, x]).run Yba.prog w := by
  have e1 : (#[23, 24] : Array TypeId)[0]? = some 23 := rfl
  have e2 : (#[23, 24] : Array TypeId)[1]? = some 24 := rfl
  have e3 : (#[23, 23] : Array TypeId)[0]? = some 23 := rfl
  have e4 : (#[23, 23] : Array TypeId)[1]? = some 23 := rfl
  have e5 : (#[.slice p n c, x] : Array Value)[0]? = some (.slice p n c) := rfl
  have e6 : (#[.slice p n c, x] : Array Value)[1]? = some x := rfl
  unfold Builtin.append_
  simp only [e1, e2, e3, e4, e5, e6, Sem.run_bind, run_underlying Yba.underlying23, run_underlying Yba.underlying24, Result.andThen_ok, Sem.run_pure]

theorem own2_mono {w : World} {B B' : Nat} {v : Value} {ys : List (Int × Int)} (h : Own2 w B v ys) (hb : B' ≤ B) : Own2 w B' v ys :=
 by
  refine ⟨h.1, ?_⟩
  rcases h.2 with h0 | ⟨g, cap, cur, h1, h2, h3⟩
  · exact .inl h0
  · exact .inr ⟨g, cap, cur, h1, Nat.le_trans hb h2, h3⟩
theorem enc2_set (ms : List (Int × Int)) (l u v : Int) : (enc2 (ms ++ [(l, u)])).set (ms.length * 2 + 1) (.int .i32 v) = enc2 (ms ++ [(l, v)]) := by
  rw [enc2_append, enc2_append, List.set_append_right _ _ (by rw [enc2_len]; omega), enc2_len, show ms.length * 2 + 1 - ms.length * 2 = 1 by omega]
  rfl
/-- The last range's upper end, stored anew. -/
theorem Own2.last {w : World} {B g cap : Nat} {ms : List (Int × Int)} {l u : Int} (v : Int) (h : Own2 w B (.slice (some ⟨g, 0, none⟩) (ms ++ [(l, u)]).length cap) (ms ++ [(l, u)])) :
    Own2 (w.setCell ⟨g, ms.length * 2 + 1, none⟩ (.int .i32 v)) B (.slice (some ⟨g, 0, none⟩) (ms ++ [(l, v)]).length cap) (ms ++ [(l, v)]) := by
  have e : (ms ++ [(l, v)]).length = (ms ++ [(l, u)]).length := by simp
  have := (World.ownsRow.stored h (ms.length * 2 + 1) (.int .i32 v)).1
  rw [enc2_set] at this
  unfold Own2
  rw [e]
  exact this
/-- 'append(nil, s...)', s of the named type. -/
theorem wpList_append_set {ops : Array Oper} {rest : List Oper} {o : Oper} {a : Act} {Q : Exit → Act → World → Prop} (w : World) (hgd : o.guard = none) (s x : Operand)
    (ho : o.op = .call { callee := .builtin .append, args := #[s, x], argTypes := #[23, 24] }) (base : Nat)
    (hs : a.eval s = .slice none 0 0) (ad : Addr) (m c : Nat) (news : List Value) (hx : a.eval x = .slice (some ad) m c) (hl : news.length = m * 2) (hnews : ∀ j u, news[j]? = some u → w.cell? (ad.add j) = some u) (h1 : ∀ u ∈ news, u.oneCell' = true)
    (hm : 0 < m) (h63 : m ≤ maxLen) (hbytes : m * 8 ≤ 140737488355328) (hbase : base ≤ w.heap.size)
    (h : ∀ g cap w', w'.ownsRow base 38 2 (.slice (some ⟨g, 0, none⟩) m cap) m news → w.grownBy w' none → wpList Yba.prog ops Q rest (a.put o.dst (.slice (some ⟨g, 0, none⟩) m cap)) w') : wpList Yba.prog ops Q (o :: rest) a w := by
  obtain ⟨i0, hi0, hz0, hz1, hz2⟩ := info_parts Yba.info38
  refine wpList_plain hgd fun K hK => ?_
  obtain ⟨g, cap, w', hr, h2, h3, _, _⟩ := run_append_lies (P := Yba.prog) w 23 o.type base 38 i0 _ 2 8 Yba.underlying23 hi0 hz0 hz1 hz2 rfl (by decide) (.slice none 0 0) 0 [] (World.ownsRow_nil _ _ _ _) ad m c news hl hnews h1 hm (by omega) (by omega) hbase w.heap.size rfl
  rw [Nat.zero_add] at hr h2
  rw [List.nil_append] at h2
  unfold Oper.wp execOp
  simp only [ho, resolve, invoke, builtin, Sem.run_bind, Sem.run_pure, Result.andThen_ok, List.map_toArray, List.map_cons, List.map_nil, hs, hx, append_types, hr]
  exact hK _ _ (h g cap w' h2 h3)
theorem enc2_one (ys : List (Int × Int)) : ∀ u ∈ enc2 ys, u.oneCell' = true := by
  intro u hu
  obtain ⟨y, _, hu⟩ := List.mem_flatMap.1 hu
  simp only [List.mem_cons, List.not_mem_nil, or_false] at hu
  rcases hu with rfl | rfl <;> rfl

theorem sort_nil (bb : Nat) (lf : Fn) (la lb : Array Value) (w : World) (hbb : w.cell? ⟨bb, 0, none⟩ = some (.slice none 0 0)) :
    Calls Yba.prog 17 #[.iface 23 (.slice none 0 0), .func lf la lb] w fun e w' => e = .returned (.tuple #[]) ∧ w'.cell? ⟨bb, 0, none⟩ = some (.slice none 0 0) ∧ Below w.heap.size w w' := by
  refine (sort_none none 0 lf la lb w).mono ?_
  rintro e w' ⟨rfl, os, rfl⟩
  exact ⟨rfl, by rw [Sort.cell?_grow _ _ _ (World.block_lt_of_cell? w _ hbb)]; exact hbb, below_grow (Nat.le_refl _)⟩

set_option maxRecDepth 100000 in
set_option maxHeartbeats 1000000 in
/-- union of one empty set. -/
theorem union_nil (sb : Nat) (w : World) (hs : w.cell? ⟨sb, 0, none⟩ = some (.slice none 0 0)) :
    Calls Yba.prog 15 #[.slice (some ⟨sb, 0, none⟩) 1 1] w fun e w' => e = .returned (.slice none 0 0) ∧ Below w.heap.size w w' := by
  have hsb := World.block_lt_of_cell? w _ hs
  go_enter Yba.func15, Yba.ntmps15
  go_wp2_with fail
  go_loopw [12] (fun i wr => (i = .int .i64 0 ∧ wr = w.alloc (.cells #[.slice none 0 0] 23)) ∨ (i = .int .i64 1 ∧ wr = (w.alloc (.cells #[.slice none 0 0] 23)))) (fun i _ => 1 - (intOf i).toNat)
  case atStart => exact .inl ⟨rfl, rfl⟩
  case round =>
    rcases hrel with ⟨rfl, rfl⟩ | ⟨rfl, rfl⟩
    · go_wp2_with fail
      exact ⟨.inr ⟨rfl, trivial⟩, by decide⟩
    · go_wp2_with (go_at_call 17; refine (sort_nil w.heap.size _ _ _ _ (by simp)).mono ?_; rintro e w1 ⟨rfl, hc1, hb1⟩)
      have BE : Hid (Below w.heap.size w w1) := ((Below.refl _ w).alloc (Nat.le_refl _) _).trans (hb1.mono (by simp))
      clear hb1
      go_wp2_with fail
      go_loopw [6, 26] (fun o i wr => o = .slice none 0 0 ∧ i = .int .i64 0 ∧ wr = w1) (fun _ _ _ => 0)
      case atStart => exact ⟨rfl, rfl, rfl⟩
      case round =>
        obtain ⟨rfl, rfl, rfl⟩ := hrel
        go_wp2_with fail
        go_ret
        exact ⟨rfl, BE.out⟩

set_option maxRecDepth 100000 in
set_option maxHeartbeats 2000000 in
/-- union of one set that is not empty. -/
theorem union_some (sb g0 cap0 B : Nat) (ys : List (Int × Int)) (w : World) (hs : w.cell? ⟨sb, 0, none⟩ = some (.slice (some ⟨g0, 0, none⟩) ys.length cap0)) (hO : Own2 w B (.slice (some ⟨g0, 0, none⟩) ys.length cap0) ys) (hp : 1 ≤ ys.length) (hl : ys.length ≤ 60000) (hsm : ∀ y ∈ ys, Small y) :
    Calls Yba.prog 15 #[.slice (some ⟨sb, 0, none⟩) 1 1] w fun e w' => ∃ (a' : Option Addr) (cap' : Nat) (ys' : List (Int × Int)), ys'.Perm ys ∧ ys'.Pairwise (fun x y => x.1 ≤ y.1) ∧ e = .returned (.slice a' (merge ys').length cap') ∧ Own2 w' w.heap.size (.slice a' (merge ys').length cap') (merge ys') ∧ Below w.heap.size w w' := by
  have hsb := World.block_lt_of_cell? w _ hs
  have hg0 : g0 < w.heap.size := (World.ownsRow.lt hO g0 rfl).2
  obtain ⟨i0, hi0, hz0, hz1, hz2⟩ := info_parts Yba.info38
  have HC : Hid (∀ (j : Nat) (u : Value), (enc2 ys)[j]? = some u → (w.alloc (.cells #[.slice none 0 0] 23)).cell? ((⟨g0, 0, none⟩ : Addr).add j) = some u) := fun j u hj => by
    have := World.ownsRow.cells hO (g := g0) rfl j u hj
    rw [World.cell?_alloc_lt _ _ _ (by rw [Addr.add_lit]; exact hg0)]; exact this
  have SM : Hid (∀ y ∈ ys, Small y) := hsm
  clear hO hsm
  go_enter Yba.func15, Yba.ntmps15
  go_wp2_with fail
  go_loopw [12] (fun i wr => (i = .int .i64 0 ∧ wr = w.alloc (.cells #[.slice none 0 0] 23)) ∨ (i = .int .i64 1 ∧ ∃ g cap, Own2 wr (w.heap.size + 1) (.slice (some ⟨g, 0, none⟩) ys.length cap) ys ∧ wr.cell? ⟨w.heap.size, 0, none⟩ = some (.slice (some ⟨g, 0, none⟩) ys.length cap) ∧ Below w.heap.size w wr)) (fun i _ => 1 - (intOf i).toNat)
  case atStart => exact .inl ⟨rfl, rfl⟩
  case round =>
    rcases hrel with ⟨rfl, rfl⟩ | ⟨rfl, g, cap, hO1, hc1, hB1⟩
    · go_wp2_with (at_builtin; refine wpList_append_set _ rfl _ _ rfl (w.heap.size + 1) rfl ⟨g0, 0, none⟩ _ _ (enc2 ys) rfl (enc2_len ys) HC.out (enc2_one ys) (by omega) (by unfold maxLen; omega) (by omega) (by simp) ?_)
      intro g1 cap1 w1 hown hgrow
      have blk : w1.heap[w.heap.size]? = (w.alloc (.cells #[.slice none 0 0] 23)).heap[w.heap.size]? := hgrow.block _ (by simp) (by simp)
      have c1 : w1.cell? ⟨w.heap.size, 0, none⟩ = some (.slice none 0 0) := by rw [World.cell?_of_block (w := w.alloc (.cells #[.slice none 0 0] 23)) (a := ⟨w.heap.size, 0, none⟩) blk]; simp
      have f1 : w1.frozen? ⟨w.heap.size, 0, none⟩ = false := by rw [World.frozen?_of_block (w := w.alloc (.cells #[.slice none 0 0] 23)) (a := ⟨w.heap.size, 0, none⟩) blk]; simp
      have O1 : Hid (Own2 (w1.setCell ⟨w.heap.size, 0, none⟩ (.slice (some ⟨g1, 0, none⟩) ys.length cap1)) (w.heap.size + 1) (.slice (some ⟨g1, 0, none⟩) ys.length cap1) ys) := ownsRow_setCell_below hown (by show w.heap.size < w.heap.size + 1; omega) _
      have B1 : Hid (Below w.heap.size w (w1.setCell ⟨w.heap.size, 0, none⟩ (.slice (some ⟨g1, 0, none⟩) ys.length cap1))) := Below.setCell (p := ⟨w.heap.size, 0, none⟩) (((Below.refl _ w).alloc (Nat.le_refl _) _).grown hgrow (by simp) (fun k hk => by cases hk)) (by exact Nat.le_refl _) _
      have C1 : Hid ((w1.setCell ⟨w.heap.size, 0, none⟩ (.slice (some ⟨g1, 0, none⟩) ys.length cap1)).cell? ⟨w.heap.size, 0, none⟩ = some (.slice (some ⟨g1, 0, none⟩) ys.length cap1)) := World.cell?_setCell_same _ _ _ c1
      clear hown hgrow blk
      go_wp2_with fail
      exact ⟨.inr ⟨rfl, g1, cap1, O1.out, C1.out, B1.out⟩, by decide⟩
    · have O1 : Hid (Own2 wr (w.heap.size + 1) (.slice (some ⟨g, 0, none⟩) ys.length cap) ys) := hO1
      have B1 : Hid (Below w.heap.size w wr) := hB1
      have z1 : w.heap.size + 1 ≤ wr.heap.size := World.block_lt_of_cell? wr _ hc1
      have z2 : w.heap.size ≠ g := by have := (World.ownsRow.lt hO1 g rfl).1; omega
      have C1 : Hid (wr.cell? ⟨w.heap.size, 0, none⟩ = some (.slice (some ⟨g, 0, none⟩) ys.length cap)) := hc1
      clear hO1 hB1 HC
      go_wp2_with (go_at_call 17; refine (sort_call (w.heap.size + 1) g cap w.heap.size ys wr O1.out C1.out z2 z1 (by omega) hp).mono ?_; rintro e w3 ⟨rfl, ys', hp', hs', hR3, hc3, hB3⟩)
      have hlen : ys'.length = ys.length := hp'.length_eq
      have SM' : Hid (∀ y ∈ ys', Small y) := fun y hy => SM.out y (hp'.mem_iff.1 hy)
      have HP : Hid (ys'.Perm ys ∧ ys'.Pairwise (fun x y => x.1 ≤ y.1)) := ⟨hp', hs'⟩
      have R3 : Hid (Rng w3 (some ⟨g, 0, none⟩) ys') := hR3
      have B3 : Hid (Below w.heap.size w w3) := B1.out.trans (hB3.mono (by omega))
      have z3 : w.heap.size ≤ w3.heap.size := B3.out.size
      clear hp' hs' hR3 hB3 O1 B1 C1 hc1 SM z1
      go_wp2_with fail
      clear hc3
      obtain ⟨wq, hwq⟩ : ∃ x, x = wr := ⟨_, rfl⟩
      subst hwq
      go_loopw [6, 26] (fun o i wr => ∃ (k : Nat) (MS : List (Int × Int)) (ao : Option Addr) (co : Nat), k ≤ ys.length ∧ o = .slice ao MS.length co ∧ i = .int .i64 k ∧ MS = merge (ys'.take k) ∧ Own2 wr w3.heap.size (.slice ao MS.length co) MS ∧ Below w3.heap.size w3 wr) (fun _ i _ => ys.length - (intOf i).toNat)
      case atStart => exact ⟨0, [], none, 0, Nat.zero_le _, rfl, rfl, rfl, Own2.nil _ _, Below.refl _ _⟩
      case round =>
        obtain ⟨k, MS, ao, co, hk, rfl, rfl, hM, hO, hB⟩ := hrel
        have hml : MS.length ≤ 60000 := by
          have := merge_len (ys'.take k)
          rw [hM]; simp at this; omega
        have HM : Hid (MS = merge (ys'.take k)) := hM
        have OW : Hid (Own2 wr w3.heap.size (.slice ao MS.length co) MS) := hO
        have BW : Hid (Below w3.heap.size w3 wr) := hB
        have SMM : Hid (∀ y ∈ MS, Small y) := by
          rw [hM]; exact merge_small fun y hy => SM'.out y (List.mem_of_mem_take hy)
        have zr : w3.heap.size ≤ wr.heap.size := hB.size
        clear hM hO hB
        by_cases hlt : k < ys.length
        · obtain ⟨y, hy⟩ : ∃ y, ys'[k]? = some y := ⟨ys'[k], List.getElem?_eq_getElem (by omega)⟩
          obtain ⟨s1, s2, s3, s4⟩ := SM'.out y (List.mem_of_getElem? hy)
          obtain ⟨bb, off, eb, h0, h1⟩ := R3.out.later BW.out k y hy
          cases eb
          have hb' := World.block_lt_of_cell? wr _ h0
          obtain ⟨L, U⟩ := y
          have HX : Hid (ys'[k]? = some (L, U)) := hy
          clear hy
          dsimp only at h0 h1 s1 s2 s3 s4
          rw [Nat.zero_add] at h0 h1
          go_upto_region 13 with (fail)
          clear h0 h1
          have O4 : Hid (Own2 (wr.alloc (.cells #[.int .i32 L, .int .i32 U] 38)) w3.heap.size (.slice ao MS.length co) MS) := World.ownsRow.alloc OW.out _
          have B4 : Hid (Below w3.heap.size w3 (wr.alloc (.cells #[.int .i32 L, .int .i32 U] 38))) := BW.out.alloc zr _
          generalize hw4 : wr.alloc (.cells #[.int .i32 L, .int .i32 U] 38) = w4 at O4 B4 ⊢
          have r0 : w4.cell? ⟨wr.heap.size, 0, none⟩ = some (.int .i32 L) := by rw [← hw4]; simp
          have r1 : w4.cell? ⟨wr.heap.size, 1, none⟩ = some (.int .i32 U) := by rw [← hw4]; simp
          have z4 : wr.heap.size < w4.heap.size := by rw [← hw4]; simp
          clear hw4
          rcases snoc_cases MS with e | ⟨ms0, pl, pu, e⟩
          · subst e
            have O4' : Hid (Own2 w4 w3.heap.size (.slice ao 0 co) []) := O4.out
            clear O4 OW SMM hml
            obtain ⟨O4, hO4⟩ : ∃ x : Hid (Own2 w4 w3.heap.size (.slice ao 0 co) []), x = O4' := ⟨_, rfl⟩
            clear hO4 O4'
            go_quiet (fail)
            go_upto_region 15 with (fail)
            generalize hw5 : w4.drewN nq = w5
            have r0' : w5.cell? ⟨wr.heap.size, 0, none⟩ = some (.int .i32 L) := by rw [← hw5]; exact r0
            have r1' : w5.cell? ⟨wr.heap.size, 1, none⟩ = some (.int .i32 U) := by rw [← hw5]; exact r1
            have O5 : Hid (Own2 w5 w3.heap.size (.slice ao 0 co) []) := by rw [← hw5]; exact O4.out
            have B5 : Hid (Below w3.heap.size w3 w5) := by rw [← hw5]; exact below_drewN B4.out _
            have z5 : w3.heap.size ≤ w5.heap.size := B5.out.size
            have z6 : wr.heap.size < w5.heap.size := World.block_lt_of_cell? w5 _ r0'
            have O5o : Hid (w5.ownsRow w3.heap.size 38 2 (.slice ao 0 co) 0 []) := O5.out
            clear hw5 r0 r1 O4 B4
            go_wp2_with (at_builtin; refine wpList_append_lies _ rfl _ _ 24 rfl w3.heap.size 38 i0 (.agg #[.int .i32 0, .int .i32 0]) 2 8 Yba.underlying24 hi0 hz0 hz1 hz2 rfl (by decide) _ 0 [] rfl (World.ownsRow.alloc O5o.out _) ⟨w5.heap.size, 0, none⟩ 1 1 [.int .i32 L, .int .i32 U] rfl rfl (cells2_new _ _ _ _) (one2 _ _) (by decide) (by unfold maxLen; omega) (by omega) (by simp; omega) (w5.heap.size + 1) (by simp) ?_)
            intro g6 cap6 w6 hown hgrow hat hl6
            have P6 : Hid (Own2 w6 w3.heap.size (.slice (some ⟨g6, 0, none⟩) (0 + 1) cap6) ([] ++ [(L, U)])) := Own2.push (ys := []) hown
            have B6 : Hid (Below w3.heap.size w3 w6) := (B5.out.alloc z5 _).grown hgrow (by simp; omega) fun k hk => (World.ownsRow.lt O5.out k hk).1
            clear hown hgrow hat hl6
            go_wp2_with fail
            go_roundw
            case rel =>
              refine ⟨k + 1, [(L, U)], some ⟨g6, 0, none⟩, cap6, by omega, rfl, by go_num, ?_, P6.out, B6.out⟩
              rw [List.take_add_one, HX.out]
              show [(L, U)] = merge (ys'.take k ++ [(L, U)])
              rw [merge_snoc, ← HM.out]
              rfl
            case measure => simp [intOf]; omega
          · have e' : Hid (MS = ms0 ++ [(pl, pu)]) := e
            obtain ⟨n0, hn0⟩ : ∃ n0, ms0.length = n0 := ⟨_, rfl⟩
            have hls : MS.length = n0 + 1 := by rw [e, ← hn0]; simp
            obtain ⟨go, cpp, eo, hgo1, hgo2⟩ := World.ownsRow.form O4.out (by omega)
            cases eo
            have hgw : go < wr.heap.size := (World.ownsRow.lt OW.out go rfl).2
            have hin : Hid (ms0.length = n0) := hn0
            obtain ⟨p1, p2, p3, p4⟩ := SMM.out (pl, pu) (by rw [e]; simp)
            dsimp only at p1 p2 p3 p4
            have g1 : w4.cell? ⟨go, n0 * 2 + 1, none⟩ = some (.int .i32 pu) := by
              rw [World.ownsRow.cellAt O4.out (n0 * 2 + 1) (by omega)]
              exact (enc2_get (ys := MS) (i := n0) (y := (pl, pu)) (by rw [e, ← hn0]; simp)).2
            have f1 : w4.frozen? ⟨go, n0 * 2 + 1, none⟩ = false := World.ownsRow.frozenAt O4.out _
            have hn' : (0 : Int) < (MS.length : Int) := by omega
            have hn2 : 0 < MS.length := by omega
            have hn1 : (MS.length : Int) - 1 = (n0 : Int) := by omega
            have k1 : (0 : Int) ≤ (n0 : Int) := by omega
            have k2 : (n0 : Int) < (MS.length : Int) := by omega
            have HLS : Hid (MS.length = n0 + 1) := hls
            clear e hn0 hls
            by_cases hc : L ≤ pu + 1
            · go_quiet (fail)
              go_upto_region 14 with (fail)
              generalize hw5 : w4.drewN nq = w5
              have r1' : w5.cell? ⟨wr.heap.size, 1, none⟩ = some (.int .i32 U) := by rw [← hw5]; exact r1
              have g1' : w5.cell? ⟨go, n0 * 2 + 1, none⟩ = some (.int .i32 pu) := by rw [← hw5]; exact g1
              have f1' : w5.frozen? ⟨go, n0 * 2 + 1, none⟩ = false := by rw [← hw5]; exact f1
              have O5 : Hid (Own2 w5 w3.heap.size (.slice (some ⟨go, 0, none⟩) MS.length co) MS) := by rw [← hw5]; exact O4.out
              have B5 : Hid (Below w3.heap.size w3 w5) := by rw [← hw5]; exact below_drewN B4.out _
              clear hw5 r0 r1 g1 f1 O4 B4
              go_region
              all_goals
                have P6 : Hid (Own2 (w5.drew.setCell ⟨go, n0 * 2 + 1, none⟩ (.int .i32 (max pu U))) w3.heap.size (.slice (some ⟨go, 0, none⟩) (ms0 ++ [(pl, max pu U)]).length co) (ms0 ++ [(pl, max pu U)])) := by
                  have h := O5.out
                  rw [e'.out] at h
                  have h' := Own2.last (w := w5.drew) (max pu U) h
                  rw [hin.out] at h'
                  exact h'
                have B6 : Hid (Below w3.heap.size w3 (w5.drew.setCell ⟨go, n0 * 2 + 1, none⟩ (.int .i32 (max pu U)))) := Below.setCell (p := ⟨go, n0 * 2 + 1, none⟩) (Below.drew B5.out) (by exact hgo1) _
                clear r1' g1' f1'
                go_wp2_with fail
                go_roundw
                case rel =>
                  refine ⟨k + 1, ms0 ++ [(pl, max pu U)], some ⟨go, 0, none⟩, co, by omega, by rw [HLS.out, List.length_append, hin.out]; rfl, by go_num, ?_, P6.out, B6.out⟩
                  rw [List.take_add_one, HX.out]
                  show ms0 ++ [(pl, max pu U)] = merge (ys'.take k ++ [(L, U)])
                  rw [merge_snoc, ← HM.out, e'.out, mstep_in _ _ _ _ (show L ≤ pu + 1 by omega)]
                case measure => simp [intOf]; omega
            · have e := e'.out
              have E9 : Hid (MS = ms0 ++ [(pl, pu)]) := e
              clear e
              go_quiet (fail)
              go_upto_region 15 with (fail)
              generalize hw5 : w4.drewN nq = w5
              have r0' : w5.cell? ⟨wr.heap.size, 0, none⟩ = some (.int .i32 L) := by rw [← hw5]; exact r0
              have r1' : w5.cell? ⟨wr.heap.size, 1, none⟩ = some (.int .i32 U) := by rw [← hw5]; exact r1
              have O5 : Hid (Own2 w5 w3.heap.size (.slice (some ⟨go, 0, none⟩) MS.length co) MS) := by rw [← hw5]; exact O4.out
              have B5 : Hid (Below w3.heap.size w3 w5) := by rw [← hw5]; exact below_drewN B4.out _
              have z5 : w3.heap.size ≤ w5.heap.size := B5.out.size
              have z6 : wr.heap.size < w5.heap.size := World.block_lt_of_cell? w5 _ r0'
              clear hw5 r0 r1 O4 B4
              go_wp2_with (at_builtin; refine wpList_append_lies _ rfl _ _ 24 rfl w3.heap.size 38 i0 (.agg #[.int .i32 0, .int .i32 0]) 2 8 Yba.underlying24 hi0 hz0 hz1 hz2 rfl (by decide) _ _ _ rfl (World.ownsRow.alloc O5.out _) ⟨w5.heap.size, 0, none⟩ 1 1 [.int .i32 L, .int .i32 U] rfl rfl (cells2_new _ _ _ _) (one2 _ _) (by decide) (by unfold maxLen; omega) (by omega) (by simp; omega) (w5.heap.size + 1) (by simp) ?_)
              intro g6 cap6 w6 hown hgrow hat hl6
              have P6 : Hid (Own2 w6 w3.heap.size (.slice (some ⟨g6, 0, none⟩) (MS.length + 1) cap6) (MS ++ [(L, U)])) := Own2.push hown
              have B6 : Hid (Below w3.heap.size w3 w6) := (B5.out.alloc z5 _).grown hgrow (by simp; omega) fun k hk => (World.ownsRow.lt O5.out k hk).1
              clear hown hgrow hat hl6
              go_wp2_with fail
              go_roundw
              case rel =>
                refine ⟨k + 1, MS ++ [(L, U)], some ⟨g6, 0, none⟩, cap6, by omega, by rw [List.length_append]; rfl, by go_num, ?_, by rw [List.length_append]; exact P6.out, B6.out⟩
                rw [List.take_add_one, HX.out]
                show MS ++ [(L, U)] = merge (ys'.take k ++ [(L, U)])
                rw [merge_snoc, ← HM.out]
                rw [E9.out, mstep_out _ _ _ _ (show ¬ L ≤ pu + 1 by omega)]
              case measure => simp [intOf]; omega
        · obtain rfl : k = ys.length := by omega
          go_wp2_with fail
          go_ret
          have e := HM.out
          rw [List.take_of_length_le (by omega)] at e
          refine ⟨ao, co, ys', HP.out.1, HP.out.2, ?_, ?_, B3.out.trans (BW.out.mono z3)⟩
          · rw [← e]; rfl
          · rw [← e]; exact own2_mono OW.out z3
end Go.Proofs.Ybulkbucw
