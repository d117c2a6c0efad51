import Derived.Test.YbulkdaskAft
namespace Go.Proofs.Ybulkdask.Clk
open Go.RowKit Go.Proofs.Ybulkdask.Tm
set_option linter.unusedSimpArgs false
set_option linter.unusedVariables false

theorem add_any (n s d : Int) (w : World) (h0 : 0 ≤ n) (h1 : n < 1000000000) (s0 : -1000000000 < s) (s1 : s < 1000000000) (d0 : -17592186044416 < d) (d1 : d < 17592186044416) :
    Calls Yba.prog 12 #[.agg #[.int .u64 n, .int .i64 s, .pointer none], .int .i64 d] w fun e w' => e = .returned (.agg #[.int .u64 ((n + d) % 1000000000), .int .i64 (s + (n + d) / 1000000000), .pointer none]) ∧ Below w.heap.size w w' := by
  by_cases h : 0 ≤ d
  · exact add_pos n s d w h0 h1 s0 s1 h d1
  · exact add_neg n s d w h0 h1 s0 s1 (by omega) d0

theorem o_num (a : Int) (h0 : -9223372036854775808 ≤ a) (h1 : a ≤ 9223372036854775807) : ∃ o : Int, wrap64 (wrap64 ((IntKind.u64.wrap a).tmod 2199023255552) - 1099511627776) = o ∧ -1099511627776 ≤ o ∧ o < 1099511627776 := by
  refine ⟨_, rfl, ?_⟩
  have e : (IntKind.u64.wrap a).tmod 2199023255552 = a % 18446744073709551616 % 2199023255552 := by
    rw [IntKind.wrap_u64, Int.tmod_eq_emod_of_nonneg (by omega)]
  rw [e]
  unfold wrap64
  omega
theorem t_num (a : Int) : ∃ t : Nat, wrap64 ((IntKind.u64.wrap a).tmod 1099511627776) = (t : Int) ∧ t < 1099511627776 := by
  have e : (IntKind.u64.wrap a).tmod 1099511627776 = a % 18446744073709551616 % 1099511627776 := by
    rw [IntKind.wrap_u64, Int.tmod_eq_emod_of_nonneg (by omega)]
  refine ⟨(a % 18446744073709551616 % 1099511627776).toNat, ?_, by omega⟩
  rw [e]
  unfold wrap64
  omega
theorem p_num (a : Int) : ∃ p : Nat, wrap64 (1 + wrap64 ((IntKind.u64.wrap a).tmod 1099511627776)) = (p : Int) ∧ 0 < p ∧ p ≤ 1099511627776 := by
  obtain ⟨t, ht, h⟩ := t_num a
  refine ⟨1 + t, ?_, by omega, by omega⟩
  rw [ht]
  unfold wrap64
  omega

theorem nums_out {n s on os : Int} {p t : Nat} (hN : Nums n s on os p t) : ∃ Y Z : Int, wrap64 ((t : Int) / (p : Int)) = Y ∧ wrap64 ((Y + 1) * (p : Int)) = Z ∧ (p : Int) ≠ 0 ∧ (p : Int) ≠ -1 ∧ 0 ≤ Y ∧ Y ≤ 1099511627776 ∧ 0 ≤ Z ∧ Z ≤ 2199023255552 ∧ (((t / p + 1) * p - t : Nat) : Int) = Z - (t : Int) ∧ 0 ≤ (t : Int) ∧ (t : Int) < 1099511627776 := by
  obtain ⟨_, _, _, _, _, _, _, ht1, hp, hp1⟩ := hN
  have hq1 : t / p ≤ t := Nat.div_le_self t p
  have hq2 : t / p * p ≤ t := Nat.div_mul_le_self t p
  have hq4 : t < (t / p + 1) * p := by rw [Nat.mul_comm]; exact Nat.lt_mul_div_succ t hp
  have hq3 : (t / p + 1) * p ≤ 2199023255552 := by rw [Nat.succ_mul]; omega
  have e4 : wrap64 ((t : Int) / (p : Int)) = ((t / p : Nat) : Int) := by
    have h2 : (t : Int) / (p : Int) = ((t / p : Nat) : Int) := rfl
    rw [h2]
    generalize t / p = q at *
    unfold wrap64
    omega
  have e5 : wrap64 ((((t / p : Nat) : Int) + 1) * (p : Int)) = (((t / p + 1) * p : Nat) : Int) := by
    have h2 : ∀ q : Nat, ((q : Int) + 1) * (p : Int) = (((q + 1) * p : Nat) : Int) := by
      intro q
      rw [Int.natCast_mul, Int.natCast_add, Int.natCast_one]
    rw [h2]
    generalize (t / p + 1) * p = m at *
    unfold wrap64
    omega
  refine ⟨((t / p : Nat) : Int), (((t / p + 1) * p : Nat) : Int), e4, e5, ?_⟩
  clear e4 e5
  have hpp : (p : Int) ≠ 0 ∧ (p : Int) ≠ -1 := by omega
  refine ⟨hpp.1, hpp.2, ?_⟩
  generalize (t / p + 1) * p = m at *
  clear hq2
  generalize t / p = q at *
  refine ⟨by omega, by omega, by omega, by omega, by omega, by omega, by omega⟩

end Go.Proofs.Ybulkdask.Clk
