import Derived.Test.YbulkdatmMul
import Derived.Laws.Bits128
namespace Go.Proofs.Ybulkdatm.Mu
open Go.RowKit Go.Proofs.Ybulkdatm.Crc

theorem i64_and1 (n : Int) : bits .and .i64 n 1 = n % 2 := by
  have h1 : (BitVec.ofInt 64 1).toNat = 2 ^ 1 - 1 := by decide
  have key : (BitVec.ofInt 64 n &&& BitVec.ofInt 64 1).toNat = (n % ((2 ^ 64 : Nat) : Int)).toNat % 2 ^ 1 := by
    rw [BitVec.toNat_and, BitVec.toNat_ofInt, h1, Nat.and_two_pow_sub_one_eq_mod]
  show IntKind.i64.wrap ((BitVec.ofInt 64 n &&& BitVec.ofInt 64 1).toNat : Nat) = n % 2
  rw [key, IntKind.wrap_i64]
  omega

theorem shift_pos (n p : Nat) (hn : n < 9223372036854775808) (hp : p < 4294967296) (w : World) :
    Calls Yba.prog 14 #[.int .i64 n, .int .u32 p] w fun e w' => e = .returned (.int .u32 (pw p n : Nat)) ∧ w' = w := by
  have hP : Hid (∀ i, pw p i < 4294967296) := fun i => pw_lt p i hp
  go_enter Yba.func14, Yba.ntmps14
  go_wp2_with fail
  go_loopg [0, 5, 6] n (fun k n' pr sq wr => ∃ c m s : Nat, c = k ∧ n' = .int .i64 (c : Int) ∧ pr = .int .u32 (pw p m : Nat) ∧ sq = .int .u32 (pw p s : Nat) ∧ Hid (m + s * c = n) ∧ c < 9223372036854775808 ∧ wr = w)
  case atStart => exact ⟨n, 0, 1, rfl, rfl, rfl, by rw [pw_one]; rfl, by show _ = _; omega, hn, rfl⟩
  obtain ⟨c, m, s, rfl, rfl, rfl, rfl, hms, hc, rfl⟩ := hrel
  by_cases hc0 : c = 0
  · have hz : ¬ (0 < (c : Int)) := by omega
    have H0 : Hid (c = 0) := hc0
    clear hc0
    go_wp2_with fail
    go_ret
    have : m = n := by
      have h1 := hms.out
      rw [H0.out] at h1
      exact h1
    exact ⟨by rw [this]; rfl, rfl⟩
  · have e1 : bits .and .i64 (c : Int) 1 = ((c % 2 : Nat) : Int) := by rw [i64_and1]; rfl
    have hpos : 0 < c := by omega
    clear hc0
    by_cases hodd : c % 2 = 1
    · rw [hodd] at e1
      go_wp2_with fail
      refine (mul_any _ _ p (hP.out m) (hP.out s) hp _).mono ?_
      rintro e w' ⟨rfl, rfl⟩
      go_wp2_with fail
      refine (mul_any _ _ p (hP.out s) (hP.out s) hp _).mono ?_
      rintro e w' ⟨rfl, rfl⟩
      go_wp2_with fail
      go_roundg (c / 2)
      case measure => omega
      case rel =>
        refine ⟨c / 2, m + s, s + s, rfl, rfl, by rw [pw_mul _ _ _ hp], by rw [pw_mul _ _ _ hp], ?_, by omega, rfl⟩
        have h1 := hms.out
        have h2 : c = 1 + 2 * (c / 2) := by omega
        show _ = _
        rw [← h1]
        generalize c / 2 = d at *
        subst h2
        simp only [Nat.mul_add, Nat.add_mul, Nat.mul_one, Nat.two_mul]
        omega
    · have hev : c % 2 = 0 := by omega
      rw [hev] at e1
      go_wp2_with fail
      refine (mul_any _ _ p (hP.out s) (hP.out s) hp _).mono ?_
      rintro e w' ⟨rfl, rfl⟩
      go_wp2_with fail
      go_roundg (c / 2)
      case measure => omega
      case rel =>
        refine ⟨c / 2, m, s + s, rfl, rfl, rfl, by rw [pw_mul _ _ _ hp], ?_, by omega, rfl⟩
        have h1 := hms.out
        have h2 : c = 2 * (c / 2) := by omega
        show _ = _
        rw [← h1]
        generalize c / 2 = d at *
        subst h2
        simp only [Nat.mul_add, Nat.add_mul, Nat.two_mul]

theorem shift_neg (n : Int) (p : Nat) (hn : n ≤ 0) (w : World) :
    Calls Yba.prog 14 #[.int .i64 n, .int .u32 p] w fun e w' => e = .returned (.int .u32 2147483648) ∧ w' = w := by
  go_enter Yba.func14, Yba.ntmps14
  go_wp2_with fail
  go_loopg [0, 5, 6] 0 (fun k n' pr sq wr => n' = .int .i64 n ∧ pr = .int .u32 2147483648 ∧ wr = w)
  case atStart => exact ⟨rfl, rfl, rfl⟩
  obtain ⟨rfl, rfl, rfl⟩ := hrel
  go_wp2_with fail
  go_ret
  exact ⟨rfl, rfl⟩
#print axioms shift_pos
end Go.Proofs.Ybulkdatm.Mu
