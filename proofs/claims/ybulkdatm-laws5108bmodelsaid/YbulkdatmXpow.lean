import Derived.Test.YbulkdatmShift
namespace Go.Proofs.Ybulkdatm.Mu
open Go.RowKit Go.Proofs.Ybulkdatm.Crc

theorem xpow_neg (n : Int) (p : Nat) (hn : n ≤ 0) (w : World) :
    Calls Yba.prog 15 #[.int .i64 n, .int .u32 p] w fun e w' => e = .returned (.int .u32 2147483648) ∧ w' = w := by
  go_enter Yba.func15, Yba.ntmps15
  go_wp2_with fail
  go_ret
  exact ⟨rfl, rfl⟩

theorem xpow_pos (n p : Nat) (h0 : 0 < n) (hn : n ≤ 4096) (hp : p < 4294967296) (w : World) :
    Calls Yba.prog 15 #[.int .i64 n, .int .u32 p] w fun e w' => e = .returned (.int .u32 (pw p n : Nat)) ∧ w' = w := by
  have hT : Hid (∀ i, Tn p i 2147483648 < 4294967296) := fun i => Tn_lt p i 2147483648 hp (by decide)
  go_enter Yba.func15, Yba.ntmps15
  go_wp2_with fail
  go_loopg [5, 7] (8 * n) (fun k pv iv wr => ∃ i : Nat, i + k = 8 * n ∧ pv = .int .u32 (Tn p i 2147483648 : Nat) ∧ iv = .int .i64 (i : Int) ∧ wr = w)
  case atStart => exact ⟨0, by omega, rfl, rfl, rfl⟩
  obtain ⟨i, hi, rfl, rfl, rfl⟩ := hrel
  obtain ⟨t, ht⟩ : ∃ t, t = Tn p i 2147483648 := ⟨_, rfl⟩
  have ht1 : t < 4294967296 := ht ▸ hT.out i
  have HTt : Hid (t = Tn p i 2147483648) := ht
  rw [← ht]
  clear ht
  by_cases hlt : i < 8 * n
  · have e2 : bits .and .u32 (t : Int) 1 = ((t % 2 : Nat) : Int) := by
      have := u32_and_nat t 1 ht1 (by decide)
      rw [nat_mask1] at this
      exact this
    have e4 : bits .xor .u32 ((t : Int) / 2) (p : Int) = (((t / 2) ^^^ p : Nat) : Int) := u32_xor_nat (t / 2) p (by omega) hp
    by_cases hodd : t % 2 = 1
    · rw [hodd] at e2
      go_wp2_with fail
      go_roundg (gk - 1)
      case measure => omega
      case rel => exact ⟨i + 1, by omega, by simp only [Tn, T, ← HTt.out, hodd, if_true], rfl, rfl⟩
    · have hev : t % 2 = 0 := by omega
      rw [hev] at e2
      go_wp2_with fail
      go_roundg (gk - 1)
      case measure => omega
      case rel => exact ⟨i + 1, by omega, by simp only [Tn, T, ← HTt.out, if_neg hodd]; rfl, rfl, rfl⟩
  · have hie : i = 8 * n := by omega
    go_wp2_with fail
    go_ret
    exact ⟨by rw [HTt.out, hie]; rfl, rfl⟩
#print axioms xpow_pos
end Go.Proofs.Ybulkdatm.Mu
