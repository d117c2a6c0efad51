import Derived.Test.YbulkdaskTime
namespace Go.Proofs.Ybulkdask.Tm
open Go.RowKit

theorem agg3 {a b c d : Int} (h1 : a = b) (h2 : c = d) : Value.agg #[.int .u64 a, .int .i64 c, .pointer none] = .agg #[.int .u64 b, .int .i64 d, .pointer none] := by rw [h1, h2]

set_option maxHeartbeats 800000 in
/-- '(time.Time).Add', a duration that is not negative. -/
theorem add_pos (n s d : Int) (w : World) (h0 : 0 ≤ n) (h1 : n < 1000000000) (s0 : -1000000000 < s) (s1 : s < 1000000000) (d0 : 0 ≤ d) (d1 : d < 17592186044416) :
    Calls Yba.prog 12 #[.agg #[.int .u64 n, .int .i64 s, .pointer none], .int .i64 d] w fun e w' => e = .returned (.agg #[.int .u64 ((n + d) % 1000000000), .int .i64 (s + (n + d) / 1000000000), .pointer none]) ∧ Below w.heap.size w w' := by
  have ha := noMono n h0 h1
  have hc := mask30 n h0 h1
  have hcl := clear30 n h0 h1
  have q0 : 0 ≤ d / 1000000000 := by omega
  have q1 : d / 1000000000 < 17593 := by omega
  have r0 : 0 ≤ d % 1000000000 := by omega
  have r1 : d % 1000000000 < 1000000000 := by omega
  by_cases hov : 1000000000 ≤ n + d % 1000000000
  · have hor := or0 (n + d % 1000000000 - 1000000000) (by omega) (by omega)
    have hm2 := noMono (n + d % 1000000000 - 1000000000) (by omega) (by omega)
    have E1 : Hid ((n + d) % 1000000000 = n + d % 1000000000 - 1000000000) := by show _ = _; omega
    have E2 : Hid (s + (n + d) / 1000000000 = s + (d / 1000000000 + 1)) := by show _ = _; omega
    go_enter Yba.func12, Yba.ntmps12
    go_wp2_with (first | (go_at_call 27; refine (addSec_any w.heap.size 0 (n + d % 1000000000 - 1000000000) s (d / 1000000000 + 1) _ (by omega) (by omega) (by omega) (by omega) (by omega) (by omega) (by simp) (by simp) (by simp)).mono ?_; rintro e w' ⟨rfl, rfl⟩) | (go_at_call 24; go_in))
    refine bodyPost_ret (v := .agg #[.int .u64 (n + d % 1000000000 - 1000000000), .int .i64 (s + (d / 1000000000 + 1)), .pointer none]) (by simp [results, Yba.results12, go_sem]) rfl ⟨congrArg Ending.returned (agg3 E1.out.symm E2.out.symm), ?_⟩
    exact ((Below.refl _ _).alloc (Nat.le_refl _) _).alloc (by simp) _
  · have hor := or0 (n + d % 1000000000) (by omega) (by omega)
    have hm2 := noMono (n + d % 1000000000) (by omega) (by omega)
    have E1 : Hid ((n + d) % 1000000000 = n + d % 1000000000) := by show _ = _; omega
    have E2 : Hid (s + (n + d) / 1000000000 = s + d / 1000000000) := by show _ = _; omega
    go_enter Yba.func12, Yba.ntmps12
    go_wp2_with (first | (go_at_call 27; refine (addSec_any w.heap.size 0 (n + d % 1000000000) s (d / 1000000000) _ (by omega) (by omega) (by omega) (by omega) (by omega) (by omega) (by simp) (by simp) (by simp)).mono ?_; rintro e w' ⟨rfl, rfl⟩) | (go_at_call 24; go_in))
    refine bodyPost_ret (v := .agg #[.int .u64 (n + d % 1000000000), .int .i64 (s + d / 1000000000), .pointer none]) (by simp [results, Yba.results12, go_sem]) rfl ⟨congrArg Ending.returned (agg3 E1.out.symm E2.out.symm), ?_⟩
    exact ((Below.refl _ _).alloc (Nat.le_refl _) _).alloc (by simp) _

theorem tdiv_neg (d : Int) (h : d < 0) : d.tdiv 1000000000 = -((-d) / 1000000000) := by
  have := Int.neg_tdiv (a := -d) (b := 1000000000)
  rw [Int.neg_neg] at this
  rw [this, Int.tdiv_eq_ediv_of_nonneg (by omega)]
theorem tmod_neg (d : Int) (h : d < 0) : d.tmod 1000000000 = -((-d) % 1000000000) := by
  have := Int.neg_tmod (a := -d) (b := 1000000000)
  rw [Int.neg_neg] at this
  rw [this, Int.tmod_eq_emod_of_nonneg (by omega)]

set_option maxHeartbeats 800000 in
/-- '(time.Time).Add', a negative duration. -/
theorem add_neg (n s d : Int) (w : World) (h0 : 0 ≤ n) (h1 : n < 1000000000) (s0 : -1000000000 < s) (s1 : s < 1000000000) (d0 : d < 0) (d1 : -17592186044416 < d) :
    Calls Yba.prog 12 #[.agg #[.int .u64 n, .int .i64 s, .pointer none], .int .i64 d] w fun e w' => e = .returned (.agg #[.int .u64 ((n + d) % 1000000000), .int .i64 (s + (n + d) / 1000000000), .pointer none]) ∧ Below w.heap.size w w' := by
  have ha := noMono n h0 h1
  have hc := mask30 n h0 h1
  have hcl := clear30 n h0 h1
  have hq := tdiv_neg d d0
  have hr := tmod_neg d d0
  have q0 : d.tdiv 1000000000 ≤ 0 := by omega
  have q1 : -17593 < d.tdiv 1000000000 := by omega
  have r0 : d.tmod 1000000000 ≤ 0 := by omega
  have r1 : -1000000000 < d.tmod 1000000000 := by omega
  have hqr : Hid (d = d.tdiv 1000000000 * 1000000000 + d.tmod 1000000000) := by show _ = _; omega
  clear hq hr
  by_cases hov : n + d.tmod 1000000000 < 0
  · have hor := or0 (n + d.tmod 1000000000 + 1000000000) (by omega) (by omega)
    have hm2 := noMono (n + d.tmod 1000000000 + 1000000000) (by omega) (by omega)
    have E1 : Hid ((n + d) % 1000000000 = n + d.tmod 1000000000 + 1000000000) := by show _ = _; have := hqr.out; omega
    have E2 : Hid (s + (n + d) / 1000000000 = s + (d.tdiv 1000000000 - 1)) := by show _ = _; have := hqr.out; omega
    go_enter Yba.func12, Yba.ntmps12
    go_wp2_with (first | (go_at_call 27; refine (addSec_any w.heap.size 0 (n + d.tmod 1000000000 + 1000000000) s (d.tdiv 1000000000 - 1) _ (by omega) (by omega) (by omega) (by omega) (by omega) (by omega) (by simp) (by simp) (by simp)).mono ?_; rintro e w' ⟨rfl, rfl⟩) | (go_at_call 24; go_in))
    refine bodyPost_ret (v := .agg #[.int .u64 (n + d.tmod 1000000000 + 1000000000), .int .i64 (s + (d.tdiv 1000000000 - 1)), .pointer none]) (by simp [results, Yba.results12, go_sem]) rfl ⟨congrArg Ending.returned (agg3 E1.out.symm E2.out.symm), ?_⟩
    exact ((Below.refl _ _).alloc (Nat.le_refl _) _).alloc (by simp) _
  · have hor := or0 (n + d.tmod 1000000000) (by omega) (by omega)
    have hm2 := noMono (n + d.tmod 1000000000) (by omega) (by omega)
    have E1 : Hid ((n + d) % 1000000000 = n + d.tmod 1000000000) := by show _ = _; have := hqr.out; omega
    have E2 : Hid (s + (n + d) / 1000000000 = s + d.tdiv 1000000000) := by show _ = _; have := hqr.out; omega
    go_enter Yba.func12, Yba.ntmps12
    go_wp2_with (first | (go_at_call 27; refine (addSec_any w.heap.size 0 (n + d.tmod 1000000000) s (d.tdiv 1000000000) _ (by omega) (by omega) (by omega) (by omega) (by omega) (by omega) (by simp) (by simp) (by simp)).mono ?_; rintro e w' ⟨rfl, rfl⟩) | (go_at_call 24; go_in))
    refine bodyPost_ret (v := .agg #[.int .u64 (n + d.tmod 1000000000), .int .i64 (s + d.tdiv 1000000000), .pointer none]) (by simp [results, Yba.results12, go_sem]) rfl ⟨congrArg Ending.returned (agg3 E1.out.symm E2.out.symm), ?_⟩
    exact ((Below.refl _ _).alloc (Nat.le_refl _) _).alloc (by simp) _
end Go.Proofs.Ybulkdask.Tm
