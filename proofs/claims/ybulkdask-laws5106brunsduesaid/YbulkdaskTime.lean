import Derived.Test.YbulkdaskRows
import Derived.WalkKit
import Derived.WalkSpells
import Derived.WalkLawsBesides
import Derived.Outline
import Derived.Laws.BitsAllLaws
import Derived.Deep.RegionWith
import Derived.Deep.DeepCutAuto
namespace Go.Proofs.Ybulkdask.Tm
open Go.RowKit

/-- The top bit of a small number is not set. -/
theorem noMono (n : Int) (h0 : 0 ≤ n) (h1 : n < 1000000000) : bits .and .u64 n 9223372036854775808 = 0 := by
  rw [u64_and n _ h0 (by omega) (by omega) (by omega)]
  have : n.toNat &&& (9223372036854775808 : Int).toNat = 0 := by
    have e : (9223372036854775808 : Int).toNat = 2 ^ 63 := rfl
    rw [e]
    apply Nat.eq_of_testBit_eq
    intro i
    rw [Nat.testBit_and, Nat.testBit_two_pow]
    by_cases hi : 63 = i
    · subst hi
      rw [Nat.testBit_lt_two_pow (by omega)]
      simp
    · simp [hi]
  rw [this]
  rfl

theorem mask30 (n : Int) (h0 : 0 ≤ n) (h1 : n < 1000000000) : bits .and .u64 n 1073741823 = n := by
  rw [u64_and n _ h0 (by omega) (by omega) (by omega)]
  have e : (1073741823 : Int).toNat = 2 ^ 30 - 1 := rfl
  rw [e, Nat.and_two_pow_sub_one_eq_mod, Nat.mod_eq_of_lt (by omega)]
  omega

theorem clear30 (n : Int) (h0 : 0 ≤ n) (h1 : n < 1000000000) : bits .andNot .u64 n 1073741823 = 0 := by
  rw [u64_andNot n _ h0 (by omega) (by omega) (by omega)]
  have : n.toNat &&& (18446744073709551615 - (1073741823 : Int).toNat) = 0 := by
    apply Nat.eq_of_testBit_eq
    intro i
    rw [Nat.testBit_and]
    by_cases hi : i < 30
    · have : Nat.testBit (18446744073709551615 - (1073741823 : Int).toNat) i = false := by
        have e : 18446744073709551615 - (1073741823 : Int).toNat = 2 ^ 30 * 17179869183 := rfl
        rw [e, Nat.testBit_two_pow_mul]
        simp; omega
      rw [this]; simp
    · rw [Nat.testBit_lt_two_pow (Nat.lt_of_lt_of_le (show n.toNat < 2 ^ 30 by omega) (Nat.pow_le_pow_right (by omega) (by omega)))]
      simp
  rw [this]
  rfl

theorem or0 (n : Int) (h0 : 0 ≤ n) (h1 : n < 1000000000) : bits .or .u64 0 n = n := by
  rw [u64_or 0 n (by omega) (by omega) h0 (by omega)]
  simp
  omega

/-- '(*time.Time).nsec'. -/
theorem nsec_any (a : Addr) (n : Int) (w : World) (h0 : 0 ≤ n) (h1 : n < 1000000000) (hc : w.cell? a = some (.int .u64 n)) (hs : a.spot = none) :
    Calls Yba.prog 24 #[.pointer (some a)] w fun e w' => e = .returned (.int .i32 n) ∧ w' = w := by
  obtain ⟨b, o, sp⟩ := a
  subst hs
  have hm := mask30 n h0 h1
  go_enter Yba.func24, Yba.ntmps24
  go_wp2
  go_ret
  exact ⟨rfl, rfl⟩

/-- '(*time.Time).sec'. -/
theorem sec_any (b o : Nat) (n s : Int) (w : World) (h0 : 0 ≤ n) (h1 : n < 1000000000) (hc : w.cell? ⟨b, o, none⟩ = some (.int .u64 n)) (hc1 : w.cell? ⟨b, o + 1, none⟩ = some (.int .i64 s)) :
    Calls Yba.prog 23 #[.pointer (some ⟨b, o, none⟩)] w fun e w' => e = .returned (.int .i64 s) ∧ w' = w := by
  have hm := noMono n h0 h1
  go_enter Yba.func23, Yba.ntmps23
  go_wp2
  go_ret
  exact ⟨rfl, rfl⟩

theorem noMono2 (n m : Int) (h0 : 0 ≤ n) (h1 : n < 1000000000) (k0 : 0 ≤ m) (k1 : m < 1000000000) : bits .and .u64 (bits .and .u64 n m) 9223372036854775808 = 0 := by
  rw [u64_and n m h0 (by omega) k0 (by omega)]
  have := Nat.and_le_left (n := n.toNat) (m := m.toNat)
  exact noMono _ (by omega) (by omega)

/-- '(time.Time).Equal'. -/
theorem equal_any (n1 s1 n2 s2 : Int) (w : World) (h0 : 0 ≤ n1) (h1 : n1 < 1000000000) (k0 : 0 ≤ n2) (k1 : n2 < 1000000000) :
    Calls Yba.prog 17 #[.agg #[.int .u64 n1, .int .i64 s1, .pointer none], .agg #[.int .u64 n2, .int .i64 s2, .pointer none]] w fun e w' => e = .returned (.bool (s1 == s2 && n1 == n2)) ∧ Below w.heap.size w w' := by
  have hm := noMono2 n1 n2 h0 h1 k0 k1
  have ha := noMono n1 h0 h1
  have hb := noMono n2 k0 k1
  have hc := mask30 n1 h0 h1
  have hd := mask30 n2 k0 k1
  by_cases hs : s1 = s2
  · subst hs
    go_enter Yba.func17, Yba.ntmps17
    go_wp2
    go_ret
    exact ⟨by simp, ((Below.refl _ _).alloc (Nat.le_refl _) _).alloc (by simp) _⟩
  · have hs' : (s1 == s2) = false := by simpa using hs
    go_enter Yba.func17, Yba.ntmps17
    go_wp2
    go_ret
    exact ⟨by simp [hs'], ((Below.refl _ _).alloc (Nat.le_refl _) _).alloc (by simp) _⟩

/-- '(time.Time).Before'. -/
theorem before_any (n1 s1 n2 s2 : Int) (w : World) (h0 : 0 ≤ n1) (h1 : n1 < 1000000000) (k0 : 0 ≤ n2) (k1 : n2 < 1000000000) :
    Calls Yba.prog 25 #[.agg #[.int .u64 n1, .int .i64 s1, .pointer none], .agg #[.int .u64 n2, .int .i64 s2, .pointer none]] w fun e w' => e = .returned (.bool (decide (s1 < s2) || (s1 == s2 && decide (n1 < n2)))) ∧ Below w.heap.size w w' := by
  have hm := noMono2 n1 n2 h0 h1 k0 k1
  have ha := noMono n1 h0 h1
  have hb := noMono n2 k0 k1
  have hc := mask30 n1 h0 h1
  have hd := mask30 n2 k0 k1
  rcases (show s1 < s2 ∨ s1 = s2 ∨ s2 < s1 from by omega) with hs | hs | hs
  · go_enter Yba.func25, Yba.ntmps25
    go_wp2
    go_ret
    exact ⟨by simp [hs], ((Below.refl _ _).alloc (Nat.le_refl _) _).alloc (by simp) _⟩
  · subst hs
    go_enter Yba.func25, Yba.ntmps25
    go_wp2
    go_ret
    exact ⟨by simp, ((Below.refl _ _).alloc (Nat.le_refl _) _).alloc (by simp) _⟩
  · have hn : ¬ s1 < s2 := by omega
    have he : (s1 == s2) = false := beq_eq_false_iff_ne.2 (by omega)
    have he' : (s2 == s1) = false := beq_eq_false_iff_ne.2 (by omega)
    go_enter Yba.func25, Yba.ntmps25
    go_wp2
    go_ret
    exact ⟨by simp [hn], ((Below.refl _ _).alloc (Nat.le_refl _) _).alloc (by simp) _⟩

/-- '(time.Time).After'. -/
theorem after_any (n1 s1 n2 s2 : Int) (w : World) (h0 : 0 ≤ n1) (h1 : n1 < 1000000000) (k0 : 0 ≤ n2) (k1 : n2 < 1000000000) :
    Calls Yba.prog 37 #[.agg #[.int .u64 n1, .int .i64 s1, .pointer none], .agg #[.int .u64 n2, .int .i64 s2, .pointer none]] w fun e w' => e = .returned (.bool (decide (s2 < s1) || (s2 == s1 && decide (n2 < n1)))) ∧ Below w.heap.size w w' := by
  have hm := noMono2 n1 n2 h0 h1 k0 k1
  have ha := noMono n1 h0 h1
  have hb := noMono n2 k0 k1
  have hc := mask30 n1 h0 h1
  have hd := mask30 n2 k0 k1
  rcases (show s2 < s1 ∨ s2 = s1 ∨ s1 < s2 from by omega) with hs | hs | hs
  · go_enter Yba.func37, Yba.ntmps37
    go_wp2
    go_ret
    exact ⟨by simp [hs], ((Below.refl _ _).alloc (Nat.le_refl _) _).alloc (by simp) _⟩
  · subst hs
    go_enter Yba.func37, Yba.ntmps37
    go_wp2
    go_ret
    exact ⟨by simp, ((Below.refl _ _).alloc (Nat.le_refl _) _).alloc (by simp) _⟩
  · have hn : ¬ s2 < s1 := by omega
    have he : (s2 == s1) = false := beq_eq_false_iff_ne.2 (by omega)
    have he' : (s1 == s2) = false := beq_eq_false_iff_ne.2 (by omega)
    go_enter Yba.func37, Yba.ntmps37
    go_wp2
    go_ret
    exact ⟨by simp [hn], ((Below.refl _ _).alloc (Nat.le_refl _) _).alloc (by simp) _⟩

/-- '(*time.Time).addSec'. -/
theorem addSec_any (b o : Nat) (n s d : Int) (w : World) (h0 : 0 ≤ n) (h1 : n < 1000000000) (s0 : -10000000000 < s) (s1 : s < 10000000000) (d0 : -10000000000 < d) (d1 : d < 10000000000)
    (hc : w.cell? ⟨b, o, none⟩ = some (.int .u64 n)) (hc1 : w.cell? ⟨b, o + 1, none⟩ = some (.int .i64 s)) (hf : w.frozen? ⟨b, o + 1, none⟩ = false) :
    Calls Yba.prog 27 #[.pointer (some ⟨b, o, none⟩), .int .i64 d] w fun e w' => e = .returned (.tuple #[]) ∧ w' = w.setCell ⟨b, o + 1, none⟩ (.int .i64 (s + d)) := by
  have ha := noMono n h0 h1
  rcases (show 0 < d ∨ d = 0 ∨ d < 0 from by omega) with hd | hd | hd
  · have e1 : decide (s < s + d) = true := decide_eq_true (by omega)
    have e2 : decide (0 < d) = true := decide_eq_true hd
    go_enter Yba.func27, Yba.ntmps27
    go_wp2
    go_end0
    exact ⟨rfl, rfl⟩
  · subst hd
    go_enter Yba.func27, Yba.ntmps27
    go_wp2
    go_end0
    exact ⟨rfl, by simp⟩
  · have e1 : decide (s < s + d) = false := decide_eq_false (by omega)
    have e2 : decide (0 < d) = false := decide_eq_false (by omega)
    go_enter Yba.func27, Yba.ntmps27
    go_wp2
    go_end0
    exact ⟨rfl, rfl⟩
end Go.Proofs.Ybulkdask.Tm
