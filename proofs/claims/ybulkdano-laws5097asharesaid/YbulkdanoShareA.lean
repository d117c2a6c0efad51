import Derived.Test.YbulkdanoRows
import Derived.WalkKit
import Derived.WalkSpells
import Derived.WalkLawsBesides
import Derived.Laws.LoneSync
import Derived.Outline
namespace Go.Proofs.Ybulkdano.Share
open Go.RowKit

/-- '(*atomic.Uint64).Store'. -/
theorem store_any (a : Addr) (u : Value) (y : Int) (w : World) (hc : w.cell? a = some u) (hz : w.frozen? a = false) :
    Calls Yba.prog 6 #[.pointer (some a), .int .u64 y] w fun e w' => e = .returned (.tuple #[]) ∧ w' = w.setCell a (.int .u64 y) := by
  have hs := run_call_store (P := Yba.prog) Yba.func11 (by kernel_rfl) (by kernel_rfl) (by kernel_rfl) (by kernel_rfl) (y := y) (k := .u64) hc hz
  go_enter Yba.func6, Yba.ntmps6
  go_wp2
  go_end0
  exact ⟨rfl, rfl⟩

/-- '(*atomic.Uint64).Load'. -/
theorem load_any (a : Addr) (y : Int) (w : World) (hc : w.cell? a = some (.int .u64 y)) :
    Calls Yba.prog 9 #[.pointer (some a)] w fun e w' => e = .returned (.int .u64 y) ∧ w' = w := by
  have hs := run_call_load (P := Yba.prog) Yba.func12 (by kernel_rfl) (by kernel_rfl) (by kernel_rfl) .u64 (by kernel_rfl) hc
  go_enter Yba.func9, Yba.ntmps9
  go_wp2
  go_ret
  exact ⟨rfl, rfl⟩

theorem beq_str (s k : ByteArray) : (s.toList == k.toList) = decide (s = k) := by
  rw [ByteArray.toList_eq, ByteArray.toList_eq, Bool.eq_iff_iff]
  simp only [beq_iff_eq, decide_eq_true_eq]
  exact ⟨fun h => WideShapes.bytes_inj h, fun h => by rw [h]⟩

/-- The last index below n at which ss holds k, or -1. -/
def lastTo (ss : List ByteArray) (k : ByteArray) : Nat → Int
  | 0 => -1
  | i + 1 => if ss.getD i ByteArray.empty = k then (i : Int) else lastTo ss k i

theorem lastTo_bd (ss : List ByteArray) (k : ByteArray) (n : Nat) : -1 ≤ lastTo ss k n ∧ lastTo ss k n < n := by
  induction n with
  | zero => simp [lastTo]
  | succ n ih => simp only [lastTo]; split <;> omega

theorem lastTo_mem (ss : List ByteArray) (i n : Nat) (h : i < n) : 0 ≤ lastTo ss (ss.getD i ByteArray.empty) n := by
  induction n with
  | zero => omega
  | succ n ih =>
    simp only [lastTo]
    by_cases hi : i = n
    · subst hi; simp
    · have := ih (by omega)
      split <;> omega

theorem ret_int {k : IntKind} {a b : Int} (h : a = b) : Ending.returned (.int k a) = .returned (.int k b) := by rw [h]
theorem int_eq {k : IntKind} {a b : Int} (h : a = b) : Value.int k a = Value.int k b := by rw [h]

set_option maxHeartbeats 400000 in
theorem last_any (a : Option Addr) (b off len cap : Nat) (ss : List ByteArray) (k : ByteArray) (w : World) (hl : len ≤ 1024) (hz : len ≤ ss.length) (ha : 0 < len → a = some ⟨b, off, none⟩)
    (hc : ∀ j, j < len → w.cell? ⟨b, off + j, none⟩ = some (.string (ss.getD j ByteArray.empty))) :
    Calls Yba.prog 8 #[.slice a len cap, .string k] w fun e w' => e = .returned (.int .i64 (lastTo ss k len)) ∧ w' = w := by
  have HA : Hid (0 < len → a = some ⟨b, off, none⟩) := ha
  have HC : Hid (∀ j, j < len → w.cell? ⟨b, off + j, none⟩ = some (.string (ss.getD j ByteArray.empty))) := hc
  clear ha hc
  go_enter Yba.func8, Yba.ntmps8
  go_wp2
  go_loop [5, 6] (fun j i => ∃ n : Nat, n ≤ len ∧ i = .int .i64 n ∧ j = .int .i64 (lastTo ss k n)) (fun _ i => len - (intOf i).toNat)
  case atStart => exact ⟨0, Nat.zero_le _, rfl, rfl⟩
  case round =>
    obtain ⟨n, hn, rfl, rfl⟩ := hrel
    by_cases hlt : n < len
    · obtain ⟨s, hs⟩ : ∃ s, s = ss.getD n ByteArray.empty := ⟨_, rfl⟩
      have hcx : w.cell? ⟨b, off + n, none⟩ = some (.string s) := by rw [hs]; exact HC.out n (by omega)
      have HL : Hid (lastTo ss k (n + 1) = if s = k then (n : Int) else lastTo ss k n) := by rw [hs]; rfl
      clear hs
      have hae : a = some ⟨b, off, none⟩ := HA.out (by omega)
      by_cases hsk : s = k
      · have ht : (s.toList == k.toList) = true := by rw [beq_str]; simpa using hsk
        go_wp2
        go_round
        case rel => exact ⟨n + 1, by omega, by go_num, int_eq (by rw [HL.out, if_pos hsk])⟩
        case measure => simp [intOf]; omega
      · have ht : (s.toList == k.toList) = false := by rw [beq_str]; simpa using hsk
        go_wp2
        go_round
        case rel => exact ⟨n + 1, by omega, by go_num, int_eq (by rw [HL.out, if_neg hsk])⟩
        case measure => simp [intOf]; omega
    · go_wp2
      go_ret
      have : n = len := by omega
      subst this
      exact ⟨rfl, rfl⟩
end Go.Proofs.Ybulkdano.Share
