/-
  THE B LAW's build: the table of ranges, both halves.
-/
import Derived.Test.YbulkbucwBStride
namespace Go.Proofs.Ybulkbucw
open Go.RowKit

/-- The cells of a table's half. -/
def enc3 (q : IntKind) (ts : List (Int × Int × Int)) : List Value := ts.flatMap fun t => [.int q t.1, .int q t.2.1, .int q t.2.2]
theorem enc3_append (q : IntKind) (xs ys : List (Int × Int × Int)) : enc3 q (xs ++ ys) = enc3 q xs ++ enc3 q ys := List.flatMap_append
theorem enc3_get {q : IntKind} {ts : List (Int × Int × Int)} {i : Nat} {t : Int × Int × Int} (h : ts[i]? = some t) : (enc3 q ts)[i * 3]? = some (.int q t.1) ∧ (enc3 q ts)[i * 3 + 1]? = some (.int q t.2.1) ∧ (enc3 q ts)[i * 3 + 2]? = some (.int q t.2.2) := by
  induction ts generalizing i with
  | nil => simp at h
  | cons z ts ih =>
    have e : enc3 q (z :: ts) = Value.int q z.1 :: Value.int q z.2.1 :: Value.int q z.2.2 :: enc3 q ts := rfl
    cases i with
    | zero =>
      simp only [List.getElem?_cons_zero, Option.some.injEq] at h
      subst h
      rw [e]
      exact ⟨rfl, rfl, rfl⟩
    | succ i =>
      rw [List.getElem?_cons_succ] at h
      obtain ⟨h1, h2, h3⟩ := ih h
      rw [e, show (i + 1) * 3 = (i * 3) + 1 + 1 + 1 by omega]
      exact ⟨h1, h2, h3⟩
/-- A table's half, as it lies. -/
def Tab (q : IntKind) (w : World) (a : Option Addr) (ts : List (Int × Int × Int)) : Prop :=
  ∀ (i : Nat) (t : Int × Int × Int), ts[i]? = some t → ∃ b off, a = some ⟨b, off, none⟩ ∧ w.cell? ⟨b, off + i * 3, none⟩ = some (.int q t.1) ∧ w.cell? ⟨b, off + i * 3 + 1, none⟩ = some (.int q t.2.1) ∧ w.cell? ⟨b, off + i * 3 + 2, none⟩ = some (.int q t.2.2)
theorem Tab.same {q : IntKind} {w w' : World} {a : Option Addr} {ts : List (Int × Int × Int)} (h : Tab q w a ts) (hs : ∀ b off o, a = some ⟨b, off, none⟩ → w'.cell? ⟨b, o, none⟩ = w.cell? ⟨b, o, none⟩) : Tab q w' a ts := fun i t ht => by
  obtain ⟨b, off, h1, h2, h3, h4⟩ := h i t ht
  exact ⟨b, off, h1, by rw [hs b off _ h1]; exact h2, by rw [hs b off _ h1]; exact h3, by rw [hs b off _ h1]; exact h4⟩
theorem Tab.later {q : IntKind} {w w' : World} {a : Option Addr} {ts : List (Int × Int × Int)} (h : Tab q w a ts) (hb : Below w.heap.size w w') : Tab q w' a ts := fun i t ht => by
  obtain ⟨b, off, h1, h2, h3, h4⟩ := h i t ht
  have hl := World.block_lt_of_cell? w _ h2
  exact ⟨b, off, h1, by rw [hb.cell (p := ⟨b, off + i * 3, none⟩) hl]; exact h2, by rw [hb.cell (p := ⟨b, off + i * 3 + 1, none⟩) hl]; exact h3, by rw [hb.cell (p := ⟨b, off + i * 3 + 2, none⟩) hl]; exact h4⟩
/-- A half in the making: the field's cell, and its row, which the call itself has made. -/
structure Half (wr : World) (pb c B ty : Nat) (q : IntKind) (v : Value) (ts : List (Int × Int × Int)) : Prop where
  cell : wr.cell? ⟨pb, c, none⟩ = some v
  fz : wr.frozen? ⟨pb, c, none⟩ = false
  own : wr.ownsRow B ty 3 v ts.length (enc3 q ts)
  lt : pb < B
  size : B ≤ wr.heap.size
theorem Half.alloc {wr : World} {pb c B ty : Nat} {q : IntKind} {v : Value} {ts : List (Int × Int × Int)} (h : Half wr pb c B ty q v ts) (o : Obj) : Half (wr.alloc o) pb c B ty q v ts := by
  have hs := h.size
  have hl := h.lt
  exact ⟨by rw [World.cell?_alloc_lt _ _ _ (by show pb < _; omega)]; exact h.cell, by rw [World.frozen?_of_block (w := wr) (a := ⟨pb, c, none⟩) (Below.heap_alloc _ _ _ (by show pb < _; omega))]; exact h.fz, h.own.alloc o, hl, by simp; omega⟩
theorem Half.tab {wr : World} {pb c B ty n cap : Nat} {q : IntKind} {a : Option Addr} {ts : List (Int × Int × Int)} (h : Half wr pb c B ty q (.slice a n cap) ts) : Tab q wr a ts ∧ ∀ b off, a = some ⟨b, off, none⟩ → pb < b ∧ b < wr.heap.size := by
  have hl := h.lt
  refine ⟨fun i t ht => ?_, fun b off e => ?_⟩
  · have hlen := (List.getElem?_eq_some_iff.1 ht).1
    obtain ⟨g, cp, e, _, _⟩ := World.ownsRow.form h.own (by omega)
    cases e
    obtain ⟨h1, h2, h3⟩ := enc3_get (q := q) ht
    have k1 := World.ownsRow.cells h.own (g := g) rfl _ _ h1
    have k2 := World.ownsRow.cells h.own (g := g) rfl _ _ h2
    have k3 := World.ownsRow.cells h.own (g := g) rfl _ _ h3
    rw [Addr.add_lit] at k1 k2 k3
    exact ⟨g, 0, rfl, k1, k2, k3⟩
  · subst e
    have := World.ownsRow.lt h.own b rfl
    omega
/-- One entry more: appended, and stored into the field. -/
theorem Half.push {wr w5 : World} {pb c B ty g cap : Nat} {q : IntKind} {v : Value} {ts : List (Int × Int × Int)} {t0 t1 t2 : Int} {o : Obj} (h : Half wr pb c B ty q v ts)
    (hown : w5.ownsRow B ty 3 (.slice (some ⟨g, 0, none⟩) (ts.length + 1) cap) (ts.length + 1) (enc3 q ts ++ [.int q t0, .int q t1, .int q t2])) (hg : (wr.alloc o).grownBy w5 v.ownBlock) :
    w5.cell? ⟨pb, c, none⟩ = some v ∧ w5.frozen? ⟨pb, c, none⟩ = false ∧
    Hid (Half (w5.setCell ⟨pb, c, none⟩ (.slice (some ⟨g, 0, none⟩) (ts.length + 1) cap)) pb c B ty q (.slice (some ⟨g, 0, none⟩) (ts.length + 1) cap) (ts ++ [(t0, t1, t2)])) ∧
    Hid (∀ b o', b < B → (b ≠ pb ∨ o' ≠ c) → (w5.setCell ⟨pb, c, none⟩ (.slice (some ⟨g, 0, none⟩) (ts.length + 1) cap)).cell? ⟨b, o', none⟩ = wr.cell? ⟨b, o', none⟩ ∧ (w5.setCell ⟨pb, c, none⟩ (.slice (some ⟨g, 0, none⟩) (ts.length + 1) cap)).frozen? ⟨b, o', none⟩ = wr.frozen? ⟨b, o', none⟩) := by
  have hl := h.lt
  have hs := h.size
  have hz := hg.size
  have hz' : wr.heap.size + 1 ≤ w5.heap.size := by simpa using hz
  have blk : ∀ b, b < B → w5.heap[b]? = wr.heap[b]? := fun b hb => by
    rw [hg.block b (by simp; omega) (fun e => by have := (World.ownsRow.lt h.own b e.symm).1; omega)]
    exact Below.heap_alloc _ _ _ (by omega)
  have cel : ∀ b o', b < B → w5.cell? ⟨b, o', none⟩ = wr.cell? ⟨b, o', none⟩ := fun b o' hb => World.cell?_of_block (w := wr) (a := ⟨b, o', none⟩) (blk b hb)
  have frz : ∀ b o', b < B → w5.frozen? ⟨b, o', none⟩ = wr.frozen? ⟨b, o', none⟩ := fun b o' hb => World.frozen?_of_block (w := wr) (a := ⟨b, o', none⟩) (blk b hb)
  have k1 : w5.cell? ⟨pb, c, none⟩ = some v := by rw [cel pb c hl]; exact h.cell
  have k2 : w5.frozen? ⟨pb, c, none⟩ = false := by rw [frz pb c hl]; exact h.fz
  refine ⟨k1, k2, ⟨World.cell?_setCell_same _ _ _ k1, by rw [World.frozen?_setCell]; exact k2, ?_, hl, by simp [World.setCell]; omega⟩, fun b o' hb hne => ⟨?_, by rw [World.frozen?_setCell]; exact frz b o' hb⟩⟩
  · rw [List.length_append, enc3_append]
    exact ownsRow_setCell_below hown (by show pb < B; omega) _
  · rw [World.cell?_setCell_other _ _ _ _ (fun e => by cases e; rcases hne with h | h <;> exact h rfl)]
    exact cel b o' hb
theorem same_two {B : Nat} (wr : World) (o1 o2 : Obj) (hB : B ≤ wr.heap.size) : ∀ b o, b < B → ((wr.alloc o1).alloc o2).cell? ⟨b, o, none⟩ = wr.cell? ⟨b, o, none⟩ ∧ ((wr.alloc o1).alloc o2).frozen? ⟨b, o, none⟩ = wr.frozen? ⟨b, o, none⟩ := fun b o hb => by
  have e : ((wr.alloc o1).alloc o2).heap[b]? = wr.heap[b]? := by rw [Below.heap_alloc _ _ _ (by simp; omega), Below.heap_alloc _ _ _ (by omega)]
  exact ⟨World.cell?_of_block (w := wr) (a := ⟨b, o, none⟩) e, World.frozen?_of_block (w := wr) (a := ⟨b, o, none⟩) e⟩
/-- What an input stands for. -/
def tri (x : Int × Int × Int) (base : Int) : Int × Int × Int := (loOf x base, hiOf x base, stOf x)
theorem take_snoc {α β : Type} (f : α → β) {xs : List α} {k : Nat} {x : α} (h : xs[k]? = some x) : (xs.take (k + 1)).map f = (xs.take k).map f ++ [f x] := by
  rw [List.take_add_one, h, List.map_append]; rfl
theorem Yba.info70 : (Yba.prog.info? 70).map (fun i => (i.zero, i.size, i.bytes)) = some (some (.agg #[.int .u16 0, .int .u16 0, .int .u16 0]), 3, 6) := by kernel_rfl
theorem Yba.info40 : (Yba.prog.info? 40).map (fun i => (i.zero, i.size, i.bytes)) = some (some (.agg #[.int .u32 0, .int .u32 0, .int .u32 0]), 3, 12) := by kernel_rfl
theorem cells3_new (w : World) (u v x : Value) (ty : TypeId) (j : Nat) (y : Value) (hy : [u, v, x][j]? = some y) : (w.alloc (.cells #[u, v, x] ty)).cell? ((⟨w.heap.size, 0, none⟩ : Addr).add j) = some y :=
  World.news_of_block (heap_alloc_new w (.cells #[u, v, x] ty)) j y hy
theorem one3 (q : IntKind) (l h s : Int) : ∀ u ∈ ([.int q l, .int q h, .int q s] : List Value), u.oneCell' = true := by
  intro u hu
  simp only [List.mem_cons, List.not_mem_nil, or_false] at hu
  rcases hu with rfl | rfl | rfl <;> rfl

set_option maxRecDepth 100000 in
set_option maxHeartbeats 2000000 in
/-- build. -/
theorem build_call (a0 : Option Addr) (cap0 : Nat) (xs : List (Int × Int × Int)) (a1 : Option Addr) (cap1 : Nat) (zs : List (Int × Int × Int)) (w : World) (hx : xs.length ≤ 300) (hz : zs.length ≤ 300) (hix : Inp w a0 xs) (hiz : Inp w a1 zs) :
    Calls Yba.prog 7 #[.slice a0 xs.length cap0, .slice a1 zs.length cap1] w fun e w' => ∃ a16 c16 a32 c32, e = .returned (.pointer (some ⟨w.heap.size, 0, none⟩)) ∧ w'.cell? ⟨w.heap.size, 0, none⟩ = some (.slice a16 xs.length c16) ∧ w'.cell? ⟨w.heap.size, 1, none⟩ = some (.slice a32 zs.length c32) ∧
      Tab .u16 w' a16 (xs.map (tri · 0)) ∧ Tab .u32 w' a32 (zs.map (tri · 65536)) ∧ Below w.heap.size w w' := by
  obtain ⟨i0, hi0, hz0, hz1, hz2⟩ := info_parts Yba.info70
  obtain ⟨i1, hi1, hy0, hy1, hy2⟩ := info_parts Yba.info40
  have IX : Hid (Inp w a0 xs) := hix
  have IZ : Hid (Inp w a1 zs) := hiz
  clear hix hiz
  go_enter Yba.func7, Yba.ntmps7
  go_wp2_with fail
  go_loopw [20] (fun i wr => ∃ (k : Nat) (ts : List (Int × Int × Int)) (aa : Option Addr) (cc : Nat), k ≤ xs.length ∧ i = .int .i64 k ∧ ts = (xs.take k).map (tri · 0) ∧ Half wr w.heap.size 0 (w.heap.size + 1) 70 .u16 (.slice aa ts.length cc) ts ∧ Below w.heap.size w wr ∧ wr.cell? ⟨w.heap.size, 1, none⟩ = some (.slice none 0 0) ∧ wr.frozen? ⟨w.heap.size, 1, none⟩ = false) (fun i _ => xs.length - (intOf i).toNat)
  case atStart => exact ⟨0, [], none, 0, Nat.zero_le _, rfl, by simp, ⟨by simp, by simp, World.ownsRow_nil _ _ _ _, by omega, by simp⟩, (Below.refl _ _).alloc (Nat.le_refl _) _, by simp, by simp⟩
  case round =>
    obtain ⟨k, ts, aa, cc, hk, rfl, hts, hH, hBe, hE⟩ := hrel
    have htl : ts.length ≤ 300 := by rw [hts]; simp; omega
    have HT : Hid (ts = (xs.take k).map (tri · 0)) := hts
    have HH : Hid (Half wr w.heap.size 0 (w.heap.size + 1) 70 .u16 (.slice aa ts.length cc) ts) := hH
    have BE : Hid (Below w.heap.size w wr) := hBe
    have HE : Hid (wr.cell? ⟨w.heap.size, 1, none⟩ = some (.slice none 0 0) ∧ wr.frozen? ⟨w.heap.size, 1, none⟩ = false) := hE
    have q2 : w.heap.size < wr.heap.size := by have := hH.size; have := hH.lt; omega
    clear hts hH hBe hE
    by_cases hlt : k < xs.length
    · obtain ⟨x, hxk⟩ : ∃ x, xs[k]? = some x := ⟨xs[k], List.getElem?_eq_getElem hlt⟩
      obtain ⟨b, off, rfl, h0, h1, h2, h3, h4, h5, h6, h7, h8⟩ := IX.out.below BE.out k x hxk
      have hb' := World.block_lt_of_cell? wr _ h0
      obtain ⟨x0, x1, x2⟩ := x
      have HX : Hid (xs[k]? = some (x0, x1, x2)) := hxk
      clear hxk
      dsimp only at h0 h1 h2 h3 h4 h5 h6 h7 h8
      obtain ⟨L, hL⟩ : ∃ L, loOf (x0, x1, x2) 0 = L := ⟨_, rfl⟩
      obtain ⟨U, hU⟩ : ∃ U, hiOf (x0, x1, x2) 0 = U := ⟨_, rfl⟩
      obtain ⟨S, hS⟩ : ∃ S, stOf (x0, x1, x2) = S := ⟨_, rfl⟩
      have l1 : 0 ≤ L := by have := (loOf_bd (x := (x0, x1, x2)) (base := 0)).1; omega
      have l2 : L ≤ 600 := by have := (loOf_bd (x := (x0, x1, x2)) (base := 0)).2; omega
      have l3 : L ≤ U := by rw [← hL, ← hU]; exact hiOf_bd.1
      have l4 : U ≤ 700 := by have := (hiOf_bd (x := (x0, x1, x2)) (base := 0)).2; omega
      have l5 : 1 ≤ S := by rw [← hS]; exact stOf_bd.1
      have l6 : S ≤ 7 := by rw [← hS]; exact stOf_bd.2
      have HTR : Hid (tri (x0, x1, x2) 0 = (L, U, S)) := by unfold Hid tri; rw [hL, hU, hS]
      go_upto_region 6 with (go_at_call 16; refine (norm x0 x1 x2 0 _ (by assumption) (by assumption) (by assumption) (by assumption) (by assumption) (by assumption) (by omega)).mono ?_; rintro e w1 ⟨rfl, rfl⟩; rw [hL, hU, hS])
      clear hL hU hS h0 h1 h2 h3 h4 h5 h6 h7 h8
      have BW2 : Hid (Below w.heap.size w ((wr.alloc (.cells #[.int .u16 x0, .int .u16 x1, .int .u8 x2] 74)).alloc (.cells #[.int .u16 x0, .int .u16 x1, .int .u8 x2] 74))) := (BE.out.alloc BE.out.size _).alloc (by have := BE.out.size; simp; omega) _
      have HH2 : Hid (Half ((wr.alloc (.cells #[.int .u16 x0, .int .u16 x1, .int .u8 x2] 74)).alloc (.cells #[.int .u16 x0, .int .u16 x1, .int .u8 x2] 74)) w.heap.size 0 (w.heap.size + 1) 70 .u16 (.slice aa ts.length cc) ts) := (HH.out.alloc _).alloc _
      have SM : Hid (∀ b o, b < (w.heap.size + 1) → ((wr.alloc (.cells #[.int .u16 x0, .int .u16 x1, .int .u8 x2] 74)).alloc (.cells #[.int .u16 x0, .int .u16 x1, .int .u8 x2] 74)).cell? ⟨b, o, none⟩ = wr.cell? ⟨b, o, none⟩ ∧ ((wr.alloc (.cells #[.int .u16 x0, .int .u16 x1, .int .u8 x2] 74)).alloc (.cells #[.int .u16 x0, .int .u16 x1, .int .u8 x2] 74)).frozen? ⟨b, o, none⟩ = wr.frozen? ⟨b, o, none⟩) := same_two _ _ _ HH.out.size
      generalize ((wr.alloc (.cells #[.int .u16 x0, .int .u16 x1, .int .u8 x2] 74)).alloc (.cells #[.int .u16 x0, .int .u16 x1, .int .u8 x2] 74)) = w2 at BW2 HH2 SM ⊢
      have p0 := HH2.out.cell
      have p1 := HH2.out.fz
      have p2 : w.heap.size < w2.heap.size := by have := HH2.out.size; have := HH2.out.lt; omega
      go_wp2_with (at_builtin; refine wpList_append_lies _ rfl _ _ 33 rfl ((w.heap.size + 1)) 70 i0 (.agg #[.int .u16 0, .int .u16 0, .int .u16 0]) 3 6 Yba.underlying33 hi0 hz0 hz1 hz2 rfl (by decide) _ _ _ rfl (World.ownsRow.alloc HH2.out.own _) ⟨w2.heap.size, 0, none⟩ 1 1 [.int .u16 L, .int .u16 U, .int .u16 S] rfl rfl (cells3_new _ _ _ _ _) (one3 _ _ _ _) (by decide) ?qc4 ?qc5 ?qc6 (w2.heap.size + 1) ?qcH ?_)
      case qc4 => unfold maxLen; omega
      case qc5 => omega
      case qc6 => have := HH2.out.size; simp; omega
      case qcH => simp
      intro g5 cap5 w5 hown hgrow hat hl5
      obtain ⟨e3, f3, hP, hQ⟩ := HH2.out.push hown hgrow
      have BE5 : Hid (Below w.heap.size w w5) := (BW2.out.alloc (by omega) _).grown hgrow (by simp; omega) fun k hk => by have := (World.ownsRow.lt HH2.out.own k hk).1; have := HH2.out.lt; omega
      clear hown hgrow hat hl5 p0 p1
      go_wp2_with fail
      go_roundw
      case rel =>
        refine ⟨k + 1, ts ++ [(L, U, S)], some ⟨g5, 0, none⟩, cap5, by omega, by go_num, ?_, ?_, BE5.out.setCell (by exact Nat.le_refl _) _, ?_⟩
        · rw [take_snoc _ HX.out, ← HT.out, HTR.out]
        · rw [List.length_append]; exact hP.out
        · exact ⟨by rw [(hQ.out _ 1 (by omega) (.inr (by omega))).1, (SM.out _ 1 (by omega)).1]; exact HE.out.1, by rw [(hQ.out _ 1 (by omega) (.inr (by omega))).2, (SM.out _ 1 (by omega)).2]; exact HE.out.2⟩
      case measure => simp [intOf]; omega
    · obtain ⟨w3, hw3⟩ : ∃ x, x = wr := ⟨_, rfl⟩
      subst hw3
      have hkl : k = xs.length := by omega
      have htl2 : Hid (ts = xs.map (tri · 0)) := by have := HT.out; rw [hkl, List.take_length] at this; exact this
      have HE1 : Hid (w3.cell? ⟨w.heap.size, 1, none⟩ = some (.slice none 0 0) ∧ w3.frozen? ⟨w.heap.size, 1, none⟩ = false) := HE.out
      have BE1 : Hid (Below w.heap.size w w3) := BE.out
      have HH1 : Hid (Half w3 w.heap.size 0 (w.heap.size + 1) 70 .u16 (.slice aa ts.length cc) ts) := HH.out
      obtain ⟨B2, hB2⟩ : ∃ B2, B2 = w3.heap.size := ⟨_, rfl⟩
      have HB2 : Hid (B2 = w3.heap.size ∧ w.heap.size < B2) := ⟨hB2, by omega⟩
      clear HE BE HH HT hB2 hkl
      obtain ⟨T16, hT16⟩ : ∃ T, T = ts := ⟨_, rfl⟩
      subst hT16
      obtain ⟨A16, hA16⟩ : ∃ T, T = aa := ⟨_, rfl⟩
      subst hA16
      obtain ⟨C16, hC16⟩ : ∃ T, T = cc := ⟨_, rfl⟩
      subst hC16
      go_wp2_with fail
      clear hlt hk q2 htl
      go_loopw [49] (fun i wr => ∃ (k : Nat) (ts : List (Int × Int × Int)) (aa : Option Addr) (cc : Nat), k ≤ zs.length ∧ i = .int .i64 k ∧ ts = (zs.take k).map (tri · 65536) ∧ Half wr w.heap.size 1 B2 40 .u32 (.slice aa ts.length cc) ts ∧ Below w.heap.size w wr ∧ ∀ b o, b < B2 → (b ≠ w.heap.size ∨ o ≠ 1) → wr.cell? ⟨b, o, none⟩ = w3.cell? ⟨b, o, none⟩) (fun i _ => zs.length - (intOf i).toNat)
      case atStart => exact ⟨0, [], none, 0, Nat.zero_le _, rfl, by simp, ⟨HE1.out.1, HE1.out.2, World.ownsRow_nil _ _ _ _, HB2.out.2, Nat.le_of_eq HB2.out.1⟩, BE1.out, fun _ _ _ _ => rfl⟩
      case round =>
        obtain ⟨k, ts, aa, cc, hk, rfl, hts, hH, hBe, hE⟩ := hrel
        have htl : ts.length ≤ 300 := by rw [hts]; simp; omega
        have HT : Hid (ts = (zs.take k).map (tri · 65536)) := hts
        have HH : Hid (Half wr w.heap.size 1 B2 40 .u32 (.slice aa ts.length cc) ts) := hH
        have BE : Hid (Below w.heap.size w wr) := hBe
        have HE : Hid (∀ b o, b < B2 → (b ≠ w.heap.size ∨ o ≠ 1) → wr.cell? ⟨b, o, none⟩ = w3.cell? ⟨b, o, none⟩) := hE
        have q2 : w.heap.size < wr.heap.size := by have := hH.size; have := hH.lt; omega
        clear hts hH hBe hE
        by_cases hlt : k < zs.length
        · obtain ⟨x, hxk⟩ : ∃ x, zs[k]? = some x := ⟨zs[k], List.getElem?_eq_getElem hlt⟩
          obtain ⟨b, off, rfl, h0, h1, h2, h3, h4, h5, h6, h7, h8⟩ := IZ.out.below BE.out k x hxk
          have hb' := World.block_lt_of_cell? wr _ h0
          obtain ⟨x0, x1, x2⟩ := x
          have HX : Hid (zs[k]? = some (x0, x1, x2)) := hxk
          clear hxk
          dsimp only at h0 h1 h2 h3 h4 h5 h6 h7 h8
          obtain ⟨L, hL⟩ : ∃ L, loOf (x0, x1, x2) 65536 = L := ⟨_, rfl⟩
          obtain ⟨U, hU⟩ : ∃ U, hiOf (x0, x1, x2) 65536 = U := ⟨_, rfl⟩
          obtain ⟨S, hS⟩ : ∃ S, stOf (x0, x1, x2) = S := ⟨_, rfl⟩
          have l1 : 0 ≤ L := by have := (loOf_bd (x := (x0, x1, x2)) (base := 65536)).1; omega
          have l2 : L ≤ 66200 := by have := (loOf_bd (x := (x0, x1, x2)) (base := 65536)).2; omega
          have l3 : L ≤ U := by rw [← hL, ← hU]; exact hiOf_bd.1
          have l4 : U ≤ 66300 := by have := (hiOf_bd (x := (x0, x1, x2)) (base := 65536)).2; omega
          have l5 : 1 ≤ S := by rw [← hS]; exact stOf_bd.1
          have l6 : S ≤ 7 := by rw [← hS]; exact stOf_bd.2
          have HTR : Hid (tri (x0, x1, x2) 65536 = (L, U, S)) := by unfold Hid tri; rw [hL, hU, hS]
          go_upto_region 12 with (go_at_call 16; refine (norm x0 x1 x2 65536 _ (by assumption) (by assumption) (by assumption) (by assumption) (by assumption) (by assumption) (by omega)).mono ?_; rintro e w1 ⟨rfl, rfl⟩; rw [hL, hU, hS])
          clear hL hU hS h0 h1 h2 h3 h4 h5 h6 h7 h8
          have BW2 : Hid (Below w.heap.size w ((wr.alloc (.cells #[.int .u16 x0, .int .u16 x1, .int .u8 x2] 74)).alloc (.cells #[.int .u16 x0, .int .u16 x1, .int .u8 x2] 74))) := (BE.out.alloc BE.out.size _).alloc (by have := BE.out.size; simp; omega) _
          have HH2 : Hid (Half ((wr.alloc (.cells #[.int .u16 x0, .int .u16 x1, .int .u8 x2] 74)).alloc (.cells #[.int .u16 x0, .int .u16 x1, .int .u8 x2] 74)) w.heap.size 1 B2 40 .u32 (.slice aa ts.length cc) ts) := (HH.out.alloc _).alloc _
          have SM : Hid (∀ b o, b < B2 → ((wr.alloc (.cells #[.int .u16 x0, .int .u16 x1, .int .u8 x2] 74)).alloc (.cells #[.int .u16 x0, .int .u16 x1, .int .u8 x2] 74)).cell? ⟨b, o, none⟩ = wr.cell? ⟨b, o, none⟩ ∧ ((wr.alloc (.cells #[.int .u16 x0, .int .u16 x1, .int .u8 x2] 74)).alloc (.cells #[.int .u16 x0, .int .u16 x1, .int .u8 x2] 74)).frozen? ⟨b, o, none⟩ = wr.frozen? ⟨b, o, none⟩) := same_two _ _ _ HH.out.size
          generalize ((wr.alloc (.cells #[.int .u16 x0, .int .u16 x1, .int .u8 x2] 74)).alloc (.cells #[.int .u16 x0, .int .u16 x1, .int .u8 x2] 74)) = w2 at BW2 HH2 SM ⊢
          have p0 := HH2.out.cell
          have p1 := HH2.out.fz
          have p2 : w.heap.size < w2.heap.size := by have := HH2.out.size; have := HH2.out.lt; omega
          go_wp2_with (at_builtin; refine wpList_append_lies _ rfl _ _ 34 rfl (B2) 40 i1 (.agg #[.int .u32 0, .int .u32 0, .int .u32 0]) 3 12 Yba.underlying34 hi1 hy0 hy1 hy2 rfl (by decide) _ _ _ rfl (World.ownsRow.alloc HH2.out.own _) ⟨w2.heap.size, 0, none⟩ 1 1 [.int .u32 L, .int .u32 U, .int .u32 S] rfl rfl (cells3_new _ _ _ _ _) (one3 _ _ _ _) (by decide) ?qc4 ?qc5 ?qc6 (w2.heap.size + 1) ?qcH ?_)
          case qc4 => unfold maxLen; omega
          case qc5 => omega
          case qc6 => have := HH2.out.size; simp; omega
          case qcH => simp
          intro g5 cap5 w5 hown hgrow hat hl5
          obtain ⟨e3, f3, hP, hQ⟩ := HH2.out.push hown hgrow
          have BE5 : Hid (Below w.heap.size w w5) := (BW2.out.alloc (by omega) _).grown hgrow (by simp; omega) fun k hk => by have := (World.ownsRow.lt HH2.out.own k hk).1; have := HH2.out.lt; omega
          clear hown hgrow hat hl5 p0 p1
          go_wp2_with fail
          go_roundw
          case rel =>
            refine ⟨k + 1, ts ++ [(L, U, S)], some ⟨g5, 0, none⟩, cap5, by omega, by go_num, ?_, ?_, BE5.out.setCell (by exact Nat.le_refl _) _, ?_⟩
            · rw [take_snoc _ HX.out, ← HT.out, HTR.out]
            · rw [List.length_append]; exact hP.out
            · exact fun b o h1 h2 => by rw [(hQ.out b o h1 h2).1, (SM.out b o h1).1]; exact HE.out b o h1 h2
          case measure => simp [intOf]; omega
        · have hkl : k = zs.length := by omega
          have hts2 : ts = zs.map (tri · 65536) := by have := HT.out; rw [hkl, List.take_length] at this; exact this
          go_wp2_with fail
          go_ret
          have c0 := HE.out w.heap.size 0 (by have := HB2.out.2; omega) (.inr (by omega))
          obtain ⟨t16, l16⟩ := HH1.out.tab
          obtain ⟨t32, l32⟩ := HH.out.tab
          have e1 : T16.length = xs.length := by rw [htl2.out, List.length_map]
          have e2 : ts.length = zs.length := by rw [hts2, List.length_map]
          refine ⟨A16, C16, aa, cc, rfl, ?_, ?_, ?_, ?_, BE.out⟩
          · rw [c0, ← e1]; exact HH1.out.cell
          · rw [← e2]; exact HH.out.cell
          · rw [← htl2.out]
            exact t16.same fun b off o e => HE.out b o (by have := (l16 b off e).2; have := HB2.out.1; omega) (.inl (by have := (l16 b off e).1; omega))
          · rw [← hts2]; exact t32
end Go.Proofs.Ybulkbucw
