/-
  zzs3532cleaf (function 11): THE WALK: a new leaf.
-/
import Derived.Test.YbulkbucwTree
import Derived.WalkSpells
import Derived.WalkLawsBesides
namespace Go.Proofs.Ybulkbucw
open Go.RowKit

/-- The texts that came in. -/
def Texts (w : World) (a : Option Addr) (n : Nat) : Prop := ∀ i, i < n → ∃ b off s, a = some ⟨b, off, none⟩ ∧ w.cell? ⟨b, off + i, none⟩ = some (.string s)

set_option maxRecDepth 100000 in
set_option maxHeartbeats 1000000 in
theorem leaf0 (i : Nat) (w : World) (a : Option Addr) (cap : Nat) (hi : i ≤ 1000) :
    Calls Yba.prog 11 #[.int .i64 i, .slice a 0 cap] w fun e w' => ∃ T o, (T = 77 ∨ T = 80 ∨ T = 84) ∧ e = .returned (.iface T (.pointer (some ⟨w.heap.size, 0, none⟩))) ∧ w' = w.alloc o := by
  go_enter Yba.func11, Yba.ntmps11
  go_wp2
  all_goals
    go_ret
    first | exact ⟨77, _, .inl rfl, rfl, rfl⟩ | exact ⟨80, _, .inr (.inl rfl), rfl, rfl⟩ | exact ⟨84, _, .inr (.inr rfl), rfl, rfl⟩

set_option maxRecDepth 100000 in
set_option maxHeartbeats 1000000 in
theorem leafN (i n : Nat) (w : World) (b off cap : Nat) (s : ByteArray) (hi : i ≤ 1000) (hn : 0 < n) (hm : n ≤ maxLen) (hc : w.cell? ⟨b, off + i % n, none⟩ = some (.string s)) :
    Calls Yba.prog 11 #[.int .i64 i, .slice (some ⟨b, off, none⟩) n cap] w fun e w' => ∃ T o, (T = 77 ∨ T = 80 ∨ T = 84) ∧ e = .returned (.iface T (.pointer (some ⟨w.heap.size, 0, none⟩))) ∧ w' = w.alloc o := by
  unfold maxLen at hm
  have h1 : i % n < n := Nat.mod_lt _ hn
  have e1 : ((i : Int) % (n : Int)) = ((i % n : Nat) : Int) := by simp
  have h2 : (i : Int) % (n : Int) < n := by rw [e1]; omega
  have h3 : 0 ≤ (i : Int) % (n : Int) := by rw [e1]; omega
  have hc2 : w.cell? ⟨b, off + ((i : Int) % (n : Int)).toNat, none⟩ = some (.string s) := by rw [e1, Int.toNat_natCast]; exact hc
  clear e1
  go_enter Yba.func11, Yba.ntmps11
  go_wp2
  all_goals
    go_ret
    first | exact ⟨77, _, .inl rfl, rfl, rfl⟩ | exact ⟨80, _, .inr (.inl rfl), rfl, rfl⟩ | exact ⟨84, _, .inr (.inr rfl), rfl, rfl⟩

/-- A new leaf, whatever the texts. -/
theorem leaf (i n cap : Nat) (w : World) (a : Option Addr) (hi : i ≤ 1000) (hm : n ≤ maxLen) (ht : Texts w a n) :
    Calls Yba.prog 11 #[.int .i64 i, .slice a n cap] w fun e w' => ∃ T o, (T = 77 ∨ T = 80 ∨ T = 84) ∧ e = .returned (.iface T (.pointer (some ⟨w.heap.size, 0, none⟩))) ∧ w' = w.alloc o := by
  by_cases h : n = 0
  · subst h; exact leaf0 i w a cap hi
  · obtain ⟨b, off, s, rfl, hc⟩ := ht (i % n) (Nat.mod_lt _ (by omega))
    exact leafN i n w b off cap s hi (by omega) hm hc
end Go.Proofs.Ybulkbucw
