namespace Go.Proofs.Ybulkdatm.Crc

/-- One step: times x, in the reversed bit order. -/
def T (p b : Nat) : Nat := if b % 2 = 1 then (b / 2) ^^^ p else b / 2
def Tn (p : Nat) : Nat → Nat → Nat
  | 0, b => b
  | n + 1, b => T p (Tn p n b)
def mulTo (p a b : Nat) : Nat → Nat
  | 0 => 0
  | i + 1 => if a.testBit (31 - i) then mulTo p a b i ^^^ Tn p i b else mulTo p a b i
def mul (p a b : Nat) : Nat := mulTo p a b 32

theorem T_bit (p b i : Nat) : (T p b).testBit i = (b.testBit (i + 1) ^^ (b.testBit 0 && p.testBit i)) := by
  unfold T
  by_cases h : b % 2 = 1
  · rw [if_pos h, Nat.testBit_xor, Nat.testBit_div_two]
    have : b.testBit 0 = true := by rw [Nat.testBit_zero]; simp [h]
    rw [this]; simp
  · rw [if_neg h, Nat.testBit_div_two]
    have : b.testBit 0 = false := by rw [Nat.testBit_zero]; simp; omega
    rw [this]; simp

theorem T_xor (p x y : Nat) : T p (x ^^^ y) = T p x ^^^ T p y := by
  apply Nat.eq_of_testBit_eq
  intro i
  simp only [T_bit, Nat.testBit_xor]
  cases x.testBit (i + 1) <;> cases y.testBit (i + 1) <;> cases x.testBit 0 <;> cases y.testBit 0 <;> cases p.testBit i <;> rfl

theorem T_zero (p : Nat) : T p 0 = 0 := by simp [T]

theorem T_lt (p b : Nat) (hp : p < 2 ^ 32) (hb : b < 2 ^ 32) : T p b < 2 ^ 32 := by
  unfold T
  split
  · exact Nat.xor_lt_two_pow (by omega) hp
  · omega

theorem Tn_xor (p n x y : Nat) : Tn p n (x ^^^ y) = Tn p n x ^^^ Tn p n y := by
  induction n with
  | zero => rfl
  | succ n ih => simp only [Tn, ih, T_xor]

theorem Tn_zero (p n : Nat) : Tn p n 0 = 0 := by
  induction n with
  | zero => rfl
  | succ n ih => simp only [Tn, ih, T_zero]

theorem Tn_add (p m n b : Nat) : Tn p (m + n) b = Tn p m (Tn p n b) := by
  induction m with
  | zero => rw [Nat.zero_add]; rfl
  | succ m ih => rw [Nat.succ_add]; simp only [Tn, ih]

theorem Tn_T (p n b : Nat) : Tn p n (T p b) = T p (Tn p n b) := by
  have := Tn_add p n 1 b
  simpa [Tn] using this.symm

theorem Tn_lt (p n b : Nat) (hp : p < 2 ^ 32) (hb : b < 2 ^ 32) : Tn p n b < 2 ^ 32 := by
  induction n with
  | zero => exact hb
  | succ n ih => exact T_lt _ _ hp ih

theorem mulTo_lt (p a b i : Nat) (hp : p < 2 ^ 32) (hb : b < 2 ^ 32) : mulTo p a b i < 2 ^ 32 := by
  induction i with
  | zero => simp [mulTo]
  | succ i ih =>
    simp only [mulTo]
    split
    · exact Nat.xor_lt_two_pow ih (Tn_lt _ _ _ hp hb)
    · exact ih

theorem xor4 (a b c d : Nat) : (a ^^^ b) ^^^ (c ^^^ d) = (a ^^^ c) ^^^ (b ^^^ d) := by
  apply Nat.eq_of_testBit_eq
  intro i
  simp only [Nat.testBit_xor]
  cases a.testBit i <;> cases b.testBit i <;> cases c.testBit i <;> cases d.testBit i <;> rfl

theorem mulTo_xor (p a x y i : Nat) : mulTo p a (x ^^^ y) i = mulTo p a x i ^^^ mulTo p a y i := by
  induction i with
  | zero => simp [mulTo]
  | succ i ih =>
    simp only [mulTo, ih, Tn_xor]
    split
    · rw [xor4]
    · rfl

theorem mulTo_T (p a b i : Nat) : mulTo p a (T p b) i = T p (mulTo p a b i) := by
  induction i with
  | zero => simp [mulTo, T_zero]
  | succ i ih =>
    simp only [mulTo, ih, Tn_T]
    split
    · rw [T_xor]
    · rfl

theorem mulTo_Tn (p a b i n : Nat) : mulTo p a (Tn p n b) i = Tn p n (mulTo p a b i) := by
  induction n with
  | zero => rfl
  | succ n ih => simp only [Tn, mulTo_T, ih]

theorem mulTo_zero (p a i : Nat) : mulTo p a 0 i = 0 := by
  induction i with
  | zero => rfl
  | succ i ih => simp only [mulTo, ih, Tn_zero]; split <;> rfl

theorem mulTo_swap (p a b c i j : Nat) : mulTo p a (mulTo p b c i) j = mulTo p b (mulTo p a c j) i := by
  induction j with
  | zero => simp only [mulTo, mulTo_zero]
  | succ j ih =>
    simp only [mulTo]
    split
    · rw [ih, mulTo_xor, mulTo_Tn]
    · exact ih

theorem Tn_one (p i : Nat) (h : i ≤ 31) : Tn p i (2 ^ 31) = 2 ^ (31 - i) := by
  induction i with
  | zero => rfl
  | succ i ih =>
    simp only [Tn, ih (by omega)]
    have e : 31 - i = (31 - (i + 1)) + 1 := by omega
    rw [e, Nat.pow_succ]
    unfold T
    rw [if_neg (by omega)]
    omega

theorem mulTo_one_bit (p a i : Nat) (h : i ≤ 32) (k : Nat) : (mulTo p a (2 ^ 31) i).testBit k = (decide (32 ≤ k + i) && decide (k < 32) && a.testBit k) := by
  induction i with
  | zero => 
    simp only [mulTo, Nat.zero_testBit]
    by_cases hk : k < 32
    · have h0 : decide (32 ≤ k + 0) = false := decide_eq_false (by omega)
      rw [h0]; rfl
    · simp [hk]
  | succ i ih =>
    have ih := ih (by omega)
    simp only [mulTo]
    by_cases hk : k = 31 - i
    · subst hk
      have h0 : ¬ 32 ≤ 31 - i + i := by omega
      have h1 : 32 ≤ 31 - i + (i + 1) := by omega
      have h2 : 31 - i < 32 := by omega
      split
      · rename_i hb
        rw [Nat.testBit_xor, ih, Tn_one _ _ (by omega), Nat.testBit_two_pow_self]
        simp [h0, h1, h2, hb]
      · rename_i hb
        rw [ih]
        simp [h0, h1, h2, hb]
    · have hd : decide (32 ≤ k + (i + 1)) = decide (32 ≤ k + i) := by
        by_cases h32 : 32 ≤ k + i
        · simp [h32]; omega
        · have : ¬ 32 ≤ k + (i + 1) := by omega
          simp [h32, this]
      rw [hd, ← ih]
      split
      · rw [Nat.testBit_xor, Tn_one _ _ (by omega), Nat.testBit_two_pow_of_ne (by omega)]
        simp
      · rfl

theorem mul_one (p a : Nat) (ha : a < 2 ^ 32) : mul p a (2 ^ 31) = a := by
  apply Nat.eq_of_testBit_eq
  intro k
  unfold mul
  rw [mulTo_one_bit _ _ _ (Nat.le_refl _)]
  by_cases hk : k < 32
  · have : 32 ≤ k + 32 := by omega
    simp [hk]
  · have : a.testBit k = false := Nat.testBit_lt_two_pow (Nat.lt_of_lt_of_le ha (Nat.pow_le_pow_right (by omega) (by omega)))
    simp [this]

theorem mul_comm (p a b : Nat) (ha : a < 2 ^ 32) (hb : b < 2 ^ 32) : mul p a b = mul p b a := by
  have h := mulTo_swap p a b (2 ^ 31) 32 32
  have h1 := mul_one p a ha
  have h2 := mul_one p b hb
  unfold mul at *
  rw [h2, h1] at h
  exact h

theorem one_lt : (2 : Nat) ^ 31 < 2 ^ 32 := by decide

theorem mul_Tn (p m b : Nat) (hp : p < 2 ^ 32) (hb : b < 2 ^ 32) : mul p (Tn p m (2 ^ 31)) b = Tn p m b := by
  rw [mul_comm p _ _ (Tn_lt _ _ _ hp one_lt) hb]
  have h2 := mul_one p b hb
  unfold mul at *
  rw [mulTo_Tn, h2]

/-- x to the power 8n. -/
def pw (p n : Nat) : Nat := Tn p (8 * n) (2 ^ 31)

theorem pw_lt (p n : Nat) (hp : p < 2 ^ 32) : pw p n < 2 ^ 32 := Tn_lt _ _ _ hp one_lt
theorem pw_zero (p : Nat) : pw p 0 = 2 ^ 31 := rfl
theorem pw_one (p : Nat) : pw p 1 = 2 ^ 23 := Tn_one p 8 (by omega)
theorem pw_mul (p m n : Nat) (hp : p < 2 ^ 32) : mul p (pw p m) (pw p n) = pw p (m + n) := by
  unfold pw
  rw [mul_Tn p _ _ hp (Tn_lt _ _ _ hp one_lt), ← Tn_add, Nat.mul_add]

end Go.Proofs.Ybulkdatm.Crc
