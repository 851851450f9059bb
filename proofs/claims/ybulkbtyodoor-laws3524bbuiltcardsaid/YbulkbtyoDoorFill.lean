/-
  LawS3524BBuilt: THE WALK.
-/
import Derived.Test.YbulkbtyoDoorPacked
import Derived.Laws.BytesArg
namespace Go.Proofs.YbulkbtyoDoor
open Go.RowKit

/-- WHAT THE WALK IS TOLD OF A SLICE OF INTEGERS THAT CAME IN. -/
def IsRow (k : IntKind) (w : World) (a : Option Addr) (len cap : Nat) (zs : List Int) : Prop :=
  (a = none ∧ len = 0 ∧ cap = 0 ∧ zs = []) ∨
  ∃ x, a = some x ∧ len ≤ cap ∧ cap ≤ maxLen ∧ zs.length = cap ∧ (∀ i, i < zs.length → w.cell? (x.add i) = some (.int k (zs.getD i 0))) ∧ ∀ n ∈ zs, (Lit.int k n).wf = true

theorem Ybad.info5 : (Ybad.prog.info? 5).map (fun i => (i.zero, i.size, i.bytes)) = some (some (.int .u8 0), 1, 1) := by kernel_rfl

/-- The cells of a new row of n bytes. -/
def newCells (n : Nat) : Array Value := madeCells #[.int .u8 0] n

theorem made (n : Nat) (hn : n ≤ 1024) (w : World) : (Instr.makeSlice 27 (.int .i64 (n : Int)) (.int .i64 (n : Int))).run Ybad.prog w = .ok (.slice (some ⟨w.heap.size, 0, none⟩) n n) (w.alloc (.cells (newCells n) 5)) := by
  obtain ⟨i, hi, h0, h1, h2⟩ := info_parts Ybad.info5
  have := run_make (P := Ybad.prog) w 27 5 i (.int .u8 0) Ybad.underlying27 hi h0 .i64 .i64 n n (by omega) (by omega) (by rw [h2]; omega) (by omega)
  simpa [h1, newCells, Value.cells] using this

theorem start_natB (n : Nat) (x : Int) (hn : n ≤ 1024) : ∃ j : Nat, j ≤ n ∧ wrap64 (x % ((n : Int) + 1)) = (j : Int) := by
  have h1 := Int.emod_nonneg x (show (n : Int) + 1 ≠ 0 by omega)
  have h2 := Int.emod_lt_of_pos x (show 0 < (n : Int) + 1 by omega)
  generalize x % ((n : Int) + 1) = y at h1 h2
  refine ⟨y.toNat, by omega, ?_⟩
  simp only [wrap64]
  omega

/-- The new row of bytes: what it holds, and that nothing old has turned. -/
def Filled (w wr : World) (n : Nat) (ns : List Int) : Prop := Below w.heap.size w wr ∧ wr.ownsRow w.heap.size 5 1 (.slice (some ⟨w.heap.size, 0, none⟩) n n) n (ns.map (Value.int .u8))
theorem Filled.start (w : World) (n : Nat) (hn : n ≤ 1024) : Filled w (w.alloc (.cells (newCells n) 5)) n (List.replicate n 0) := by
  refine ⟨(Below.refl _ _).alloc (Nat.le_refl _) _, ?_⟩
  have := World.ownsRow_lit (base := w.heap.size) (e := 5) (size := 1) w (newCells n) n (Nat.le_refl _) (by unfold maxLen; omega) (by simp [newCells, size_madeCells])
  rw [newCells, toList_madeCells_one] at this
  rw [List.map_replicate]
  exact this
theorem Filled.put {w wr : World} {n : Nat} {ns : List Int} (h : Filled w wr n ns) (k : Nat) (v : Int) : Filled w (wr.setCell ⟨w.heap.size, k, none⟩ (.int .u8 v)) n (ns.set k v) := by
  refine ⟨h.1.setCell (Nat.le_refl _) _, ?_⟩
  have := (h.2.stored k (.int .u8 v)).1
  rw [List.map_set]
  exact this
theorem Filled.len {w wr : World} {n : Nat} {ns : List Int} (h : Filled w wr n ns) : ns.length = n := by simpa using h.2.1
theorem Filled.cell {w wr : World} {n : Nat} {ns : List Int} (h : Filled w wr n ns) (k : Nat) (hk : k < n) : wr.cell? ⟨w.heap.size, k, none⟩ = some (.int .u8 (ns.getD k 0)) := by
  rw [h.2.cellAt k (by omega)]
  have := h.len
  simp [List.getD, List.getElem?_eq_getElem (show k < ns.length by omega)]
theorem Filled.str {w wr : World} {n : Nat} {ns : List Int} (h : Filled w wr n ns) : ∃ s : ByteArray, s.size = n ∧ (convert 27 9 (.slice (some ⟨w.heap.size, 0, none⟩) n n)).run Ybad.prog wr = .ok (.string s) wr := by
  refine ⟨strOfNums ns, ?_, run_convert_bytes_arg wr 27 5 Ybad.underlying27 Ybad.underlying5 w.heap.size 0 n n ns h.len (fun i hi => by rw [Nat.zero_add]; exact h.cell i hi) 9 Ybad.underlying9⟩
  have := h.len
  simp [strOfNums, ByteArray.size, this]
/-- An argument's byte, in the middle of the loop. -/
theorem pick_at {w wr : World} {a0 : Option Addr} {len cap : Nat} {zs : List Int} (h : IsRow .u8 w a0 len cap zs) (hb : Below w.heap.size w wr) (k : Nat) (hk : k < len) :
    ∃ b off z, a0 = some ⟨b, off, none⟩ ∧ wr.cell? ⟨b, off + k, none⟩ = some (.int .u8 z) ∧ 0 ≤ z ∧ z ≤ 255 := by
  rcases h with ⟨_, rfl, _, _⟩ | ⟨x, rfl, h1, _, h3, h4, h5⟩
  · omega
  · obtain ⟨b, off, rfl, hc⟩ := ints_at h4 (by omega)
    have hk' : k < zs.length := by omega
    have hck := hc k hk'
    refine ⟨b, off, zs.getD k 0, rfl, ?_, ?_⟩
    · rw [hb.cell (p := ⟨b, off + k, none⟩) (World.block_lt_of_cell? w _ hck)]; exact hck
    · have : zs.getD k 0 = zs[k] := by simp [List.getD, List.getElem?_eq_getElem hk']
      rw [this]
      exact bounds_u8 (h5 _ (List.getElem_mem hk'))
/-- The two runs at one string, told together. -/
theorem both_runs (s : ByteArray) (x : Int) (w : World) (hn : s.size ≤ 1024) (hD : ∀ c : UInt8, w.cell? ⟨0, c.toNat, none⟩ = some (.int .u8 (dg c))) :
    ∃ (a : Int) (E : Nat), Hid (Calls Ybad.prog 6 #[.string s, .int .i64 (wrap64 (x % ((s.size : Int) + 1)))] w fun e w' => e = .returned (.tuple #[.int .u64 a, .int .i64 E]) ∧ w' = w) ∧
      Hid (Calls Ybad.prog 7 #[.string s, .int .i64 (wrap64 (x % ((s.size : Int) + 1)))] w fun e w' => e = .returned (.tuple #[.int .u64 a, .int .i64 E]) ∧ w' = w) ∧
      wrap64 (x % ((s.size : Int) + 1)) ≤ E ∧ E ≤ s.size ∧ ∀ h : E < s.size, dg s[E] = 0 := by
  obtain ⟨j, hj, ej⟩ := start_natB s.size x hn
  rw [ej]
  have hle := pr_le (s.data.toList.drop j) 0
  have hsz : s.data.toList.length = s.size := by simp
  rw [List.length_drop, hsz] at hle
  refine ⟨_, _, packed_any s j w hj (by unfold maxLen; omega) hD, model_any s j w hj (by unfold maxLen; omega), by omega, by omega, fun h => ?_⟩
  have := pr_at (s.data.toList.drop j) 0 (by rw [List.length_drop, hsz]; omega)
  rw [List.getElem_drop] at this
  exact this

set_option maxHeartbeats 1000000 in
theorem built (a0 : Option Addr) (len0 cap0 : Nat) (z0 : List Int) (x : Int) (w : World) (w0 : IsRow .u8 w a0 len0 cap0 z0) (h0 : 0 ≤ x) (l0 : len0 ≤ 1024) (hD : ∀ c : UInt8, w.cell? ⟨0, c.toNat, none⟩ = some (.int .u8 (dg c))) :
    Calls Ybad.prog 4 #[.slice a0 len0 cap0, .int .u64 x] w fun e w' => e = .returned (.bool true) ∧ Below w.heap.size w w' := by
  have W0 : Hid (IsRow .u8 w a0 len0 cap0 z0) := w0
  have HD : Hid (∀ c : UInt8, w.cell? ⟨0, c.toNat, none⟩ = some (.int .u8 (dg c))) := hD
  have hmk := made len0 l0
  clear w0 hD
  go_enter Ybad.func4, Ybad.ntmps4
  go_wp2
  go_loopw [6] (fun i wr => ∃ (k : Nat) (ns : List Int), k ≤ len0 ∧ i = .int .i64 k ∧ Filled w wr len0 ns) (fun i _ => len0 - (intOf i).toNat)
  case atStart => exact ⟨0, _, Nat.zero_le _, rfl, Filled.start w len0 l0⟩
  case round =>
    obtain ⟨k, ns, hk, rfl, HF⟩ := hrel
    by_cases hlt : k < len0
    · obtain ⟨b, off, z, rfl, hc, hz0, hz1⟩ := pick_at W0.out HF.1 k hlt
      have hfz := HF.2.frozenAt k
      have hold := HF.cell k hlt
      generalize ns.getD k 0 = old at hold
      go_wp2
      go_roundw
      case rel => exact ⟨k + 1, _, by omega, by go_num, HF.put k _⟩
      case measure => simp [intOf]; omega
    · obtain ⟨s, hs, hcv⟩ := HF.str
      have HB : Hid (Below w.heap.size w wr) := HF.1
      obtain ⟨a, E, hp, hq, hE1, hE2, hE3⟩ := both_runs s x wr (by omega) (fun c => by
        have := HD.out c
        rw [HF.1.cell (p := ⟨0, c.toNat, none⟩) (World.block_lt_of_cell? w _ this)]; exact this)
      have HS : Hid (s.size = len0) := hs
      have hs1 : s.size ≤ 1024 := by omega
      clear HF W0 HD hs hmk
      by_cases hl : E < s.size
      · have Hd : Hid (∀ w, Calls Ybad.prog 8 #[.int .u8 (s[E].toNat : Int)] w fun e w' => e = .returned (.int .u64 0) ∧ w' = w) := fun w => by
          have := digit_any s[E].toNat w (by omega) (by have := s[E].toNat_lt; omega)
          rw [show dgN s[E].toNat = 0 from hE3 hl] at this
          exact this
        clear hE3
        go_wp2_with (first | (go_at_call 6; refine hp.out.mono ?_; rintro e w' ⟨rfl, rfl⟩) | (go_at_call 7; refine hq.out.mono ?_; rintro e w' ⟨rfl, rfl⟩) | (go_at_call 8; refine (Hd.out _).mono ?_; rintro e w' ⟨rfl, rfl⟩))
        go_ret
        exact ⟨rfl, HB.out⟩
      · have hl' : decide ((E : Int) < (s.size : Int)) = false := by simp; omega
        clear hE3
        go_wp2_with (first | (go_at_call 6; refine hp.out.mono ?_; rintro e w' ⟨rfl, rfl⟩) | (go_at_call 7; refine hq.out.mono ?_; rintro e w' ⟨rfl, rfl⟩))
        go_ret
        exact ⟨rfl, HB.out⟩

set_option maxHeartbeats 400000 in
theorem built_big (a0 : Option Addr) (len0 cap0 : Nat) (x : Int) (w : World) (l0 : 1024 < len0) :
    Calls Ybad.prog 4 #[.slice a0 len0 cap0, .int .u64 x] w fun e w' => e = .returned (.bool true) ∧ Below w.heap.size w w' := by
  go_enter Ybad.func4, Ybad.ntmps4
  go_wp2
  go_ret
  exact ⟨rfl, Below.refl _ _⟩
theorem built_any (a0 : Option Addr) (len0 cap0 : Nat) (z0 : List Int) (x : Int) (w : World) (w0 : IsRow .u8 w a0 len0 cap0 z0) (h0 : 0 ≤ x) (hD : ∀ c : UInt8, w.cell? ⟨0, c.toNat, none⟩ = some (.int .u8 (dg c))) :
    Calls Ybad.prog 4 #[.slice a0 len0 cap0, .int .u64 x] w fun e w' => e = .returned (.bool true) ∧ Below w.heap.size w w' := by
  by_cases h : 1024 < len0
  · exact built_big a0 len0 cap0 x w h
  · exact built a0 len0 cap0 z0 x w w0 h0 (by omega) hD
end Go.Proofs.YbulkbtyoDoor
