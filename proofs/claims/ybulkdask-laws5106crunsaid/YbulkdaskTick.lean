import Derived.Test.YbulkdaskRows
import Derived.Shelf.Bits.Mul64
import Derived.WalkKit
import Derived.ProofKit
namespace Go.Proofs.Ybulkdask.Tk
open Go.RowKit Go.Lib

set_option maxHeartbeats 1000000 in
/-- 'bits.Mul64'. -/
theorem mul64 (x y : Nat) (hx : x < 18446744073709551616) (hy : y < 18446744073709551616) (w : World) :
    Calls Yba.prog 64 #[.int .u64 x, .int .u64 y] w fun e w' => e = .returned (.tuple #[.int .u64 ((x * y / 18446744073709551616 : Nat) : Int), .int .u64 ((x * y % 18446744073709551616 : Nat) : Int)]) ∧ w' = w := by
  obtain ⟨bd, bt, bw, hhi⟩ := Lib.mul64_hi x y hx hy
  have ba := Lib.half_mul_le (a := x / 4294967296) (b := y / 4294967296) (by omega) (by omega)
  have bb := Lib.half_mul_le (a := x / 4294967296) (b := y % 4294967296) (by omega) (by omega)
  have bc := Lib.half_mul_le (a := x % 4294967296) (b := y / 4294967296) (by omega) (by omega)
  have ba' : x / 4294967296 * (y / 4294967296) < 18446744073709551616 := by omega
  have bb' : x / 4294967296 * (y % 4294967296) < 18446744073709551616 := by omega
  have bc' : x % 4294967296 * (y / 4294967296) < 18446744073709551616 := by omega
  have bh1 : x / 4294967296 * (y / 4294967296) + (x / 4294967296 * (y % 4294967296) + x % 4294967296 * (y % 4294967296) / 4294967296) / 4294967296 < 18446744073709551616 := by omega
  have bh : x / 4294967296 * (y / 4294967296) + (x / 4294967296 * (y % 4294967296) + x % 4294967296 * (y % 4294967296) / 4294967296) / 4294967296 + ((x / 4294967296 * (y % 4294967296) + x % 4294967296 * (y % 4294967296) / 4294967296) % 4294967296 + x % 4294967296 * (y / 4294967296)) / 4294967296 < 18446744073709551616 := by omega
  go_enter Yba.func64, Yba.ntmps64
  go_wp2
  simp only [Mul64.maskN x hx, Mul64.maskN y hy, Mul64.divN, Mul64.mulN, Mul64.addN, Mul64.wrapN _ bd, Mul64.wrapN _ bb', Mul64.wrapN _ bt, Mul64.maskN _ bt, Mul64.wrapN _ bc', Mul64.wrapN _ bw, Mul64.wrapN _ ba', Mul64.wrapN _ bh1, Mul64.wrapN _ bh, Mul64.wrapM (x * y)]
  rw [hhi]
  go_ret2
  exact ⟨rfl, rfl⟩

/-- 'Period.TickAt', the period positive, the time not negative. -/
theorem tickAt (p t : Nat) (hp : 0 < p) (ht : t < 9223372036854775808) (w : World) :
    Calls Yba.prog 40 #[.int .i64 p, .int .i64 t] w fun e w' => e = .returned (.int .i64 ((t / p : Nat) : Int)) ∧ w' = w := by
  have hp0 : ((p : Nat) : Int) ≠ 0 := by omega
  have hpn : ((p : Nat) : Int) ≠ -1 := by omega
  have hq : wrap64 ((t : Int) / (p : Int)) = ((t / p : Nat) : Int) := by
    have h1 := Nat.div_le_self t p
    have h2 : (t : Int) / (p : Int) = ((t / p : Nat) : Int) := rfl
    rw [h2]
    generalize t / p = q at *
    unfold wrap64
    omega
  go_enter Yba.func40, Yba.ntmps40
  go_wp2
  rw [hq]
  go_ret
  exact ⟨rfl, rfl⟩

/-- 'Period.TimeOf', the product within the range. -/
theorem timeOf (p t : Nat) (hpt : t * p < 9223372036854775808) (hp : p < 9223372036854775808) (ht : t < 9223372036854775808) (w : World) :
    Calls Yba.prog 39 #[.int .i64 p, .int .i64 t] w fun e w' => e = .returned (.int .i64 ((t * p : Nat) : Int)) ∧ w' = w := by
  have h := mul64 t p (by omega) (by omega) w
  have e1 : t * p / 18446744073709551616 = 0 := by omega
  have e2 : t * p % 18446744073709551616 = t * p := by omega
  rw [e1, e2] at h
  obtain ⟨q, hq⟩ : ∃ q, q = t * p := ⟨_, rfl⟩
  rw [← hq] at h hpt ⊢
  have H : Hid (Calls Yba.prog 64 #[.int .u64 t, .int .u64 p] w fun e w' => e = .returned (.tuple #[.int .u64 ((0 : Nat) : Int), .int .u64 (q : Int)]) ∧ w' = w) := h
  clear h e1 e2 hq
  go_enter Yba.func39, Yba.ntmps39
  go_wp2_with fail
  refine H.out.mono ?_
  rintro e w' ⟨rfl, rfl⟩
  go_wp2_with fail
  go_ret
  exact ⟨rfl, rfl⟩
#print axioms timeOf
end Go.Proofs.Ybulkdask.Tk
