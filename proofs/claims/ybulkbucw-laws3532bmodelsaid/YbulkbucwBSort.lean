/-
  THE B LAW's CALL OF sort.Slice: a set of ranges, sorted by its lower ends.
-/
import Derived.Test.YbulkbucwShelf
import Derived.Test.YbulkbucwBStride
import Derived.Shelf.SlSortFuncK.WholeK
import Derived.Shelf.GgSortFunc.Tiny
import Derived.Deep.QuietTactic
namespace Go.Proofs.Ybulkbucw
open Go.Shelf Go.RowKit Go.Lib Go.Sort

/-- A range: its two cells. -/
def encR (p : Int × Int) : List Value := [.int .i32 p.1, .int .i32 p.2]
/-- 'less': by the lower end. -/
def ltR (a b : Int × Int) : Bool := decide (a.1 < b.1)
theorem swo_ltR : SWO ltR where
  irrefl := fun x => by simp [ltR]
  trans := fun x y z h1 h2 => by simp [ltR] at *; omega
  ntrans := fun x y z h1 h2 => by simp [ltR] at *; omega

theorem svT : ∃ i, Yba.prog.info? 23 = some i ∧ i.desc = .slice 38 := ⟨(Yba.prog.info? 23).get (by kernel_rfl), by kernel_rfl, by kernel_rfl⟩
theorem svE : ∃ i, Yba.prog.info? 38 = some i ∧ i.size = 2 ∧ i.hasPointers = false ∧ i.bytes = 8 := ⟨(Yba.prog.info? 38).get (by kernel_rfl), by kernel_rfl, by kernel_rfl, by kernel_rfl, by kernel_rfl⟩
theorem svK {ie : TypeInfo} (a : ie.hasPointers = false) (b : ie.bytes = 8) (n : Nat) (h2 : 2 ≤ n) : Lib.swapperK n ie 25 = 5 := by
  have c : (n == 0) = false := by simp; omega
  have d : (n == 1) = false := by simp; omega
  simp [Lib.swapperK, a, b, c, d]

set_option maxHeartbeats 2000000 in
/-- union's own closure. -/
theorem lessR (blk off c Bs size : Nat) (W : World) (G : Nat → Int) (hs : W.cell? ⟨Bs, 0, none⟩ = some (.slice (some ⟨blk, off, none⟩) size c))
    (hc : ∀ t, t < size → W.cell? ⟨blk, off + t * 2, none⟩ = some (.int .i32 (G t))) (i j : Nat) (hi : i < size) (hj : j < size) (_hsz : size < 4611686018427387904) :
    Calls Yba.prog 18 #[.int .i64 i, .int .i64 j, .pointer (some ⟨Bs, 0, none⟩)] W fun e w' => e = .returned (.bool (decide (G i < G j))) ∧ ∃ q, w' = W.drewN q := by
  have ci := hc i hi
  have cj := hc j hj
  go_enter Yba.func18, Yba.ntmps18
  go_wp2
  go_quiet (fail)
  go_wp2
  go_ret
  exact ⟨rfl, nq, rfl⟩

theorem sort_two (blk off c Bs : Nat) (d : Array (Int × Int)) (h2 : 2 ≤ d.size) (hsz : d.size < 4611686018427387904) (w : World) (hH : HoldsK encR 2 w blk off d) (hblk : blk < w.heap.size)
    (hBs : w.cell? ⟨Bs, 0, none⟩ = some (.slice (some ⟨blk, off, none⟩) d.size c)) (hB1 : Bs < w.heap.size) (hB2 : Bs ≠ blk) :
    Calls Yba.prog 17 #[.iface 23 (.slice (some ⟨blk, off, none⟩) d.size c), .func (.func 18) #[] #[.pointer (some ⟨Bs, 0, none⟩)]] w fun e w' =>
      e = .returned (.tuple #[]) ∧ ∃ d' n os, PermIn 0 d.size d d' ∧ SortedIn ltR 0 d.size d' ∧ w' = grow (putRowK encR 2 (Sort.ahead w n) blk off d') os := by
  have hless : LessReadsK Yba.prog 18 #[.pointer (some ⟨Bs, 0, none⟩)] encR 2 ltR blk off d.size w := by
    intro m os dk hs i j hi hj
    have e : sortWorldK encR 2 w blk off m dk os = putRowK encR 2 (grow (Sort.ahead w m) os) blk off dk := by
      unfold sortWorldK; rw [putRowK_grow _ _ (Sort.ahead w m) _ blk off _ hblk]
    have hHg : HoldsK encR 2 (grow (Sort.ahead w m) os) blk off d := holdsK_grow _ _ _ _ blk off d hblk (holdsK_ahead _ _ _ _ _ _ _ hH)
    refine lessR blk off c Bs d.size _ (fun t => dk[t]!.1) ?_ (fun t ht => ?_) i j hi hj (by omega)
    · rw [e, cell?_putRowK_other _ _ _ blk off dk _ (by exact hB2), cell?_grow _ _ _ (by exact hB1)]; exact hBs
    · rw [e]; exact ((holdsK_putRowK _ _ _ blk off d dk hHg hs).cell (i := t) (c := 0) (by omega) (by omega)).1
  obtain ⟨it, t1, t2⟩ := svT
  obtain ⟨ie, e1, e2, e3, e4⟩ := svE
  exact Any.sort_Slice_cells_sorted Yba.sv6 23 38 it ie t1 t2 (by kernel_rfl) e1 25 (fun _ => by kernel_rfl) encR 2 (fun _ => rfl) e2 (fun _ => by kernel_rfl)
    (fun x v hv => by simp [encR] at hv; rcases hv with rfl | rfl <;> rfl) ltR swo_ltR 18 _
    (enters_of Yba.func18 (by kernel_rfl) rfl) blk off c d h2 hsz 28 (by rw [svK e3 e4 _ h2]; kernel_rfl) true
    (fun args W => run_callFunc_extern Yba.func28 (by kernel_rfl) (by kernel_rfl) (by kernel_rfl) (e := Extern.ReflectliteSwapper.swap true) (by kernel_rfl) args W) w hless hH hblk
theorem sort_none (p : Option Addr) (c : Nat) (lf : Fn) (la lb : Array Value) (w : World) :
    Calls Yba.prog 17 #[.iface 23 (.slice p 0 c), .func lf la lb] w fun e w' => e = .returned (.tuple #[]) ∧ ∃ os, w' = grow w os := by
  obtain ⟨it, t1, t2⟩ := svT
  obtain ⟨ie, e1, _⟩ := svE
  exact Any.sort_Slice_tiny Yba.sv6 23 38 it ie t1 t2 (by kernel_rfl) e1 25 (fun _ => by kernel_rfl) p 0 c (by omega) 24 (by rw [show Lib.swapperK 0 ie 25 = 1 from rfl]; kernel_rfl) lf la lb w
theorem sort_one (p : Option Addr) (c : Nat) (lf : Fn) (la lb : Array Value) (w : World) :
    Calls Yba.prog 17 #[.iface 23 (.slice p 1 c), .func lf la lb] w fun e w' => e = .returned (.tuple #[]) ∧ ∃ os, w' = grow w os := by
  obtain ⟨it, t1, t2⟩ := svT
  obtain ⟨ie, e1, _⟩ := svE
  exact Any.sort_Slice_tiny Yba.sv6 23 38 it ie t1 t2 (by kernel_rfl) e1 25 (fun _ => by kernel_rfl) p 1 c (by omega) 25 (by rw [show Lib.swapperK 1 ie 25 = 2 from rfl]; kernel_rfl) lf la lb w
end Go.Proofs.Ybulkbucw
