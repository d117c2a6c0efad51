/-! The order of the timers and a heap of their numbers: plain lists, no Go in sight. -/
namespace Go.Proofs.Ybulkdask.Ord

/-- Due ahead: by the due time, then by the number. -/
def lt (dd : Nat → Nat) (a b : Nat) : Prop := dd a < dd b ∨ (dd a = dd b ∧ a < b)

theorem lt_asymm {dd : Nat → Nat} {a b : Nat} (h : lt dd a b) : ¬ lt dd b a := by
  unfold lt at *; omega
theorem lt_trans {dd : Nat → Nat} {a b c : Nat} (h : lt dd a b) (k : lt dd b c) : lt dd a c := by
  unfold lt at *; omega
theorem nlt_trans {dd : Nat → Nat} {a b c : Nat} (h : ¬ lt dd b a) (k : ¬ lt dd c b) : ¬ lt dd c a := by
  unfold lt at *; omega
theorem lt_irrefl (dd : Nat → Nat) (a : Nat) : ¬ lt dd a a := by
  unfold lt; omega
theorem lt_total {dd : Nat → Nat} {a b : Nat} (h : ¬ lt dd a b) (hn : a ≠ b) : lt dd b a := by
  unfold lt at *; omega

abbrev at' (h : List Nat) (k : Nat) : Nat := h.getD k 0
def swap (h : List Nat) (i j : Nat) : List Nat := (h.set i (at' h j)).set j (at' h i)

theorem at_set (h : List Nat) (i v k : Nat) (hi : i < h.length) : at' (h.set i v) k = if k = i then v else at' h k := by
  unfold at'
  simp only [List.getD_eq_getElem?_getD, List.getElem?_set]
  by_cases e : i = k
  · subst e; simp [hi]
  · simp [e, Ne.symm e]
theorem at_swap (h : List Nat) (i j k : Nat) (hi : i < h.length) (hj : j < h.length) : at' (swap h i j) k = if k = j then at' h i else if k = i then at' h j else at' h k := by
  unfold swap
  rw [at_set _ _ _ _ (by simpa using hj), at_set _ _ _ _ hi]
theorem len_swap (h : List Nat) (i j : Nat) : (swap h i j).length = h.length := by simp [swap]
theorem at_lt (h : List Nat) (k : Nat) (hk : k < h.length) : at' h k = h[k] := by simp [at', hk]
theorem at_mem (h : List Nat) (k : Nat) (hk : k < h.length) : at' h k ∈ h := by rw [at_lt h k hk]; exact List.getElem_mem hk

theorem swap_perm (h : List Nat) (i j : Nat) (hi : i < h.length) (hj : j < h.length) : (swap h i j).Perm h := by
  unfold swap
  rw [at_lt h i hi, at_lt h j hj]
  exact List.set_set_perm hi hj

/-- The first n places are a heap. -/
def isHeap (dd : Nat → Nat) (h : List Nat) (n : Nat) : Prop := ∀ k, 0 < k → k < n → ¬ lt dd (at' h k) (at' h ((k - 1) / 2))

/-- A heap, but that place j may come ahead of its parent. -/
def UpInv (dd : Nat → Nat) (h : List Nat) (n j : Nat) : Prop :=
  (∀ k, 0 < k → k < n → k ≠ j → ¬ lt dd (at' h k) (at' h ((k - 1) / 2))) ∧
  (∀ k, 0 < k → k < n → (k - 1) / 2 = j → 0 < j → ¬ lt dd (at' h k) (at' h ((j - 1) / 2)))

theorem up_done {dd : Nat → Nat} {h : List Nat} {n j : Nat} (u : UpInv dd h n j) (hd : j = 0 ∨ ¬ lt dd (at' h j) (at' h ((j - 1) / 2))) : isHeap dd h n := by
  intro k h0 hn
  by_cases e : k = j
  · subst e
    rcases hd with hd | hd
    · omega
    · exact hd
  · exact u.1 k h0 hn e

theorem up_step {dd : Nat → Nat} {h : List Nat} {n j : Nat} (u : UpInv dd h n j) (hj0 : 0 < j) (hjn : j < n) (hn : n ≤ h.length) (hl : lt dd (at' h j) (at' h ((j - 1) / 2))) : UpInv dd (swap h ((j - 1) / 2) j) n ((j - 1) / 2) := by
  have hi : (j - 1) / 2 < h.length := by omega
  have hj : j < h.length := by omega
  have hp : (j - 1) / 2 < j := by omega
  refine ⟨?_, ?_⟩
  · intro k h0 hk hne
    rw [at_swap h _ _ k hi hj, at_swap h _ _ ((k - 1) / 2) hi hj]
    by_cases e1 : k = j
    · subst e1
      rw [if_pos rfl, if_neg (by omega), if_pos rfl]
      exact lt_asymm hl
    · rw [if_neg e1, if_neg hne]
      by_cases e2 : (k - 1) / 2 = j
      · rw [if_pos e2]
        exact u.2 k h0 hk e2 hj0
      · rw [if_neg e2]
        by_cases e3 : (k - 1) / 2 = (j - 1) / 2
        · rw [if_pos e3]
          have := u.1 k h0 hk e1
          rw [e3] at this
          exact nlt_trans (lt_asymm hl) this
        · rw [if_neg e3]
          exact u.1 k h0 hk e1
  · intro k h0 hk hpk hp0
    have hpp : ((j - 1) / 2 - 1) / 2 < (j - 1) / 2 := by omega
    rw [at_swap h _ _ k hi hj, at_swap h _ _ (((j - 1) / 2 - 1) / 2) hi hj]
    rw [if_neg (by omega : ¬ ((j - 1) / 2 - 1) / 2 = j), if_neg (by omega : ¬ ((j - 1) / 2 - 1) / 2 = (j - 1) / 2)]
    have hpar := u.1 ((j - 1) / 2) hp0 (by omega) (by omega)
    by_cases e1 : k = j
    · rw [if_pos e1]
      exact hpar
    · rw [if_neg e1, if_neg (by omega)]
      have := u.1 k h0 hk e1
      rw [hpk] at this
      exact nlt_trans hpar this

/-- A heap, but that place i may come behind its children. -/
def DownInv (dd : Nat → Nat) (h : List Nat) (n i : Nat) : Prop :=
  (∀ k, 0 < k → k < n → (k - 1) / 2 ≠ i → ¬ lt dd (at' h k) (at' h ((k - 1) / 2))) ∧
  (∀ k, 0 < k → k < n → (k - 1) / 2 = i → 0 < i → ¬ lt dd (at' h k) (at' h ((i - 1) / 2)))

theorem down_leaf {dd : Nat → Nat} {h : List Nat} {n i : Nat} (u : DownInv dd h n i) (hi : n ≤ 2 * i + 1) : isHeap dd h n := by
  intro k h0 hk
  exact u.1 k h0 hk (by omega)

theorem down_done {dd : Nat → Nat} {h : List Nat} {n i j : Nat} (u : DownInv dd h n i) (hm : ∀ k, 0 < k → k < n → (k - 1) / 2 = i → ¬ lt dd (at' h k) (at' h j)) (hd : ¬ lt dd (at' h j) (at' h i)) : isHeap dd h n := by
  intro k h0 hk
  by_cases e : (k - 1) / 2 = i
  · rw [e]
    exact nlt_trans hd (hm k h0 hk e)
  · exact u.1 k h0 hk e

theorem down_step {dd : Nat → Nat} {h : List Nat} {n i j : Nat} (u : DownInv dd h n i) (hn : n ≤ h.length) (hj0 : 0 < j) (hj : j < n) (hji : (j - 1) / 2 = i) (hm : ∀ k, 0 < k → k < n → (k - 1) / 2 = i → ¬ lt dd (at' h k) (at' h j)) (hl : lt dd (at' h j) (at' h i)) : DownInv dd (swap h i j) n j := by
  have hi' : i < h.length := by omega
  have hj' : j < h.length := by omega
  refine ⟨?_, ?_⟩
  · intro k h0 hk hne
    rw [at_swap h _ _ k hi' hj', at_swap h _ _ ((k - 1) / 2) hi' hj']
    rw [if_neg hne]
    by_cases e1 : k = j
    · subst e1
      rw [if_pos rfl, if_pos hji]
      exact lt_asymm hl
    · rw [if_neg e1]
      by_cases e2 : k = i
      · subst e2
        rw [if_pos rfl, if_neg (by omega)]
        exact u.2 j hj0 hj hji h0
      · rw [if_neg e2]
        by_cases e3 : (k - 1) / 2 = i
        · rw [if_pos e3]
          exact hm k h0 hk e3
        · rw [if_neg e3]
          exact u.1 k h0 hk e3
  · intro k h0 hk hpk hj00
    rw [at_swap h _ _ k hi' hj', at_swap h _ _ ((j - 1) / 2) hi' hj']
    rw [if_neg (by omega), if_neg (by omega), if_neg (by omega : ¬ (j - 1) / 2 = j), if_pos hji]
    have := u.1 k h0 hk (by omega)
    rw [hpk] at this
    exact this

theorem root_min {dd : Nat → Nat} {h : List Nat} {n : Nat} (u : isHeap dd h n) : ∀ k, k < n → ¬ lt dd (at' h k) (at' h 0) := by
  intro k
  induction k using Nat.strongRecOn with
  | ind k ih =>
    intro hk
    by_cases e : k = 0
    · subst e; exact lt_irrefl _ _
    · exact nlt_trans (ih ((k - 1) / 2) (by omega) (by omega)) (u k (by omega) hk)
end Go.Proofs.Ybulkdask.Ord
