import Derived.Test.YbulkdatmRows
import Derived.Test.YbulkdatmCrc
import Derived.WalkKit
import Derived.ProofKit
import Derived.Deep.LoopGhost
import Derived.Laws.BitsAllLaws
namespace Go.Proofs.Ybulkdatm.Mu
open Go.RowKit Go.Proofs.Ybulkdatm.Crc

theorem pow_at (i : Nat) (hi : i < 32) : 2147483648 / 2 ^ i = 2 ^ (31 - i) := by
  have : (2147483648 : Nat) = 2 ^ 31 := by decide
  rw [this, Nat.pow_div (by omega) (by decide)]
theorem pow_end : 2147483648 / 2 ^ 32 = 0 := by decide
theorem and_bit (a i : Nat) (hi : i < 32) : a &&& (2147483648 / 2 ^ i) = if a.testBit (31 - i) then 2147483648 / 2 ^ i else 0 := by
  rw [pow_at i hi, nat_bit, Nat.testBit_eq_decide_div_mod_eq]
  by_cases h : a / 2 ^ (31 - i) % 2 = 1
  · rw [h]; simp
  · have : a / 2 ^ (31 - i) % 2 = 0 := by omega
    rw [this]; simp
theorem half_at (i : Nat) : 2147483648 / 2 ^ i / 2 = 2147483648 / 2 ^ (i + 1) := by
  rw [Nat.div_div_eq_div_mul, Nat.pow_succ]

theorem mulTo_lt (p a b n : Nat) (hb : b < 2 ^ 32) (hp : p < 2 ^ 32) : mulTo p a b n < 2 ^ 32 := by
  induction n with
  | zero => exact (by decide : (0:Nat) < 2 ^ 32)
  | succ n ih =>
    simp only [mulTo]
    split
    · exact Nat.xor_lt_two_pow ih (Tn_lt p n b hp hb)
    · exact ih
theorem mul_lt (p a b : Nat) (hb : b < 4294967296) (hp : p < 4294967296) : mul p a b < 4294967296 := mulTo_lt p a b 32 hb hp

theorem mul_any (a b p : Nat) (ha : a < 4294967296) (hb : b < 4294967296) (hp : p < 4294967296) (w : World) :
    Calls Yba.prog 16 #[.int .u32 a, .int .u32 b, .int .u32 p] w fun e w' => e = .returned (.int .u32 (mul p a b : Nat)) ∧ w' = w := by
  have hT : Hid (∀ i, Tn p i b < 4294967296) := fun i => Tn_lt p i b hp hb
  have hM : Hid (∀ i, mulTo p a b i < 4294967296) := fun i => mulTo_lt p a b i hb hp
  go_enter Yba.func16, Yba.ntmps16
  go_wp2_with fail
  go_loopg [1, 7, 8] 32 (fun k b' pr bit wr => ∃ i : Nat, i + k = 32 ∧ b' = .int .u32 (Tn p i b : Nat) ∧ pr = .int .u32 (mulTo p a b i : Nat) ∧ bit = .int .u32 ((2147483648 / 2 ^ i : Nat) : Int) ∧ wr = w)
  case atStart => exact ⟨0, rfl, rfl, rfl, rfl, rfl⟩
  obtain ⟨i, hik, rfl, rfl, rfl, rfl⟩ := hrel
  by_cases hlt : i < 32
  · obtain ⟨c, hc⟩ : ∃ c, c = 2147483648 / 2 ^ i := ⟨_, rfl⟩
    obtain ⟨t, ht⟩ : ∃ t, t = Tn p i b := ⟨_, rfl⟩
    obtain ⟨m, hm⟩ : ∃ m, m = mulTo p a b i := ⟨_, rfl⟩
    have hc1 : c < 4294967296 := by rw [hc]; exact Nat.lt_of_le_of_lt (Nat.div_le_self _ _) (by decide)
    have hc0 : ((c : Nat) : Int) ≠ 0 := by
      rw [hc, pow_at i hlt]
      have := Nat.two_pow_pos (31 - i)
      omega
    have ht1 : t < 4294967296 := ht ▸ hT.out i
    have hm1 : m < 4294967296 := hm ▸ hM.out i
    have e1 : bits .and .u32 (a : Int) (c : Int) = ((if a.testBit (31 - i) then c else 0 : Nat) : Int) := by
      rw [u32_and_nat a c ha hc1, hc, and_bit a i hlt]
    have e2 : bits .and .u32 (t : Int) 1 = ((t % 2 : Nat) : Int) := by
      have := u32_and_nat t 1 ht1 (by decide)
      rw [nat_mask1] at this
      exact this
    have e3 : bits .xor .u32 (m : Int) (t : Int) = ((m ^^^ t : Nat) : Int) := u32_xor_nat m t hm1 ht1
    have e4 : bits .xor .u32 ((t : Int) / 2) (p : Int) = (((t / 2) ^^^ p : Nat) : Int) := u32_xor_nat (t / 2) p (by omega) hp
    have HC : Hid (c = 2147483648 / 2 ^ i) := hc
    have HTt : Hid (t = Tn p i b) := ht
    have HMm : Hid (m = mulTo p a b i) := hm
    rw [← hc, ← ht, ← hm]
    clear hc ht hm
    have hstep : Hid ((2147483648 / 2 ^ (i + 1) : Nat) = c / 2) := by rw [HC.out]; exact (half_at i).symm
    by_cases hbit : a.testBit (31 - i) = true
    · rw [if_pos hbit] at e1
      have HB : Hid (a.testBit (31 - i) = true) := hbit
      clear hbit
      by_cases hodd : t % 2 = 1
      · rw [hodd] at e2
        go_wp2_with fail
        go_roundg (gk - 1)
        case measure => omega
        case rel =>
          refine ⟨i + 1, by omega, ?_, ?_, ?_, rfl⟩
          · simp only [Tn, T, ← HTt.out, hodd, if_true]
          · simp only [mulTo, ← HTt.out, ← HMm.out, HB.out, if_true]
          · rw [hstep.out]; rfl
      · have hev : t % 2 = 0 := by omega
        rw [hev] at e2
        go_wp2_with fail
        go_roundg (gk - 1)
        case measure => omega
        case rel =>
          refine ⟨i + 1, by omega, ?_, ?_, ?_, rfl⟩
          · simp only [Tn, T, ← HTt.out, if_neg hodd]; rfl
          · simp only [mulTo, ← HTt.out, ← HMm.out, HB.out, if_true]
          · rw [hstep.out]; rfl
    · rw [if_neg hbit] at e1
      have HB : Hid (¬ a.testBit (31 - i) = true) := hbit
      clear hbit
      by_cases hodd : t % 2 = 1
      · rw [hodd] at e2
        go_wp2_with fail
        go_roundg (gk - 1)
        case measure => omega
        case rel =>
          refine ⟨i + 1, by omega, ?_, ?_, ?_, rfl⟩
          · simp only [Tn, T, ← HTt.out, hodd, if_true]
          · simp only [mulTo, ← HMm.out, if_neg HB.out]
          · rw [hstep.out]; rfl
      · have hev : t % 2 = 0 := by omega
        rw [hev] at e2
        go_wp2_with fail
        go_roundg (gk - 1)
        case measure => omega
        case rel =>
          refine ⟨i + 1, by omega, ?_, ?_, ?_, rfl⟩
          · simp only [Tn, T, ← HTt.out, if_neg hodd]; rfl
          · simp only [mulTo, ← HMm.out, if_neg HB.out]
          · rw [hstep.out]; rfl
  · obtain rfl : i = 32 := by omega
    rw [pow_end]
    go_wp2_with fail
    go_ret
    exact ⟨rfl, rfl⟩
#print axioms mul_any
end Go.Proofs.Ybulkdatm.Mu
