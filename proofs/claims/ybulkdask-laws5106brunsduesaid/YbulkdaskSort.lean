import Derived.Test.YbulkdaskHeap
namespace Go.Proofs.Ybulkdask.Ord

theorem sorted_unique {dd : Nat → Nat} : ∀ (l1 l2 : List Nat), l1.Pairwise (lt dd) → l2.Pairwise (lt dd) → l1.Perm l2 → l1 = l2
  | [], l2, _, _, h => (List.Perm.nil_eq h)
  | x :: l1, [], _, _, h => by have := h.length_eq; simp at this
  | x :: l1, y :: l2, h1, h2, h => by
    have e : x = y := by
      have m1 : x ∈ y :: l2 := h.mem_iff.1 (by simp)
      have m2 : y ∈ x :: l1 := h.mem_iff.2 (by simp)
      rcases List.mem_cons.1 m1 with e | m1
      · exact e
      · rcases List.mem_cons.1 m2 with e | m2
        · exact e.symm
        · exact absurd (List.rel_of_pairwise_cons h1 m2) (lt_asymm (List.rel_of_pairwise_cons h2 m1))
    subst e
    rw [sorted_unique l1 l2 (List.Pairwise.of_cons h1) (List.Pairwise.of_cons h2) (List.Perm.cons_inv h)]

def le (dd : Nat → Nat) (a b : Nat) : Bool := decide (dd a < dd b ∨ (dd a = dd b ∧ a ≤ b))

theorem sorted_ex (dd : Nat → Nat) (n : Nat) : ∃ srt : List Nat, srt.Perm (List.range n) ∧ srt.Pairwise (lt dd) := by
  refine ⟨(List.range n).mergeSort (le dd), List.mergeSort_perm _ _, ?_⟩
  have h1 := List.pairwise_mergeSort (le := le dd) (by intro a b c; simp [le]; omega) (by intro a b; simp [le]; omega) (List.range n)
  have h2 : ((List.range n).mergeSort (le dd)).Pairwise (· ≠ ·) := ((List.mergeSort_perm (List.range n) (le dd)).nodup_iff).2 List.nodup_range
  refine (h1.and h2).imp ?_
  intro a b h
  simp only [le, decide_eq_true_eq] at h
  unfold lt
  omega

theorem set_two (l1 l2 : List Nat) (x y : Nat) : ((l1 ++ x :: y :: l2).set l1.length y).set (l1.length + 1) x = l1 ++ y :: x :: l2 := by
  rw [List.set_append_right _ _ (Nat.le_refl _), Nat.sub_self, List.set_cons_zero, List.set_append_right _ _ (by omega), show l1.length + 1 - l1.length = 1 by omega]
  rfl

theorem ins_done {dd : Nat → Nat} {A C : List Nat} {i : Nat} (h1 : (A ++ C).Pairwise (lt dd)) (h2 : ∀ c ∈ C, lt dd i c) (h3 : ∀ a ∈ A, a < i) (h4 : A = [] ∨ ∃ A' p, A = A' ++ [p] ∧ dd p ≤ dd i) : (A ++ i :: C).Pairwise (lt dd) := by
  rw [List.pairwise_append] at h1 ⊢
  refine ⟨h1.1, List.pairwise_cons.2 ⟨h2, h1.2.1⟩, ?_⟩
  intro a ha c hc
  have hai : lt dd a i := by
    rcases h4 with e | ⟨A', p, e, hp⟩
    · subst e; cases ha
    · subst e
      have hpi := h3 p (by simp)
      have h5 : lt dd p i := by unfold lt; omega
      rcases List.mem_append.1 ha with ha | ha
      · have h6 := (List.pairwise_append.1 h1.1).2.2 a ha p (by simp)
        exact lt_trans h6 h5
      · simp at ha; subst ha; exact h5
  rcases List.mem_cons.1 hc with e | hc
  · subst e; exact hai
  · exact h1.2.2 a ha c hc

/-- What the law wants to be logged. -/
def wantOf (dd : Nat → Nat) (d e : Nat) (l : List Nat) : List (Nat × Int) := l.filterMap (fun i => if dd i ≤ d then some (i, 0) else if dd i ≤ e then some (i, 1) else none)

theorem want_eq {dd : Nat → Nat} {d e : Nat} {a1 a2 b2 : List Nat} (hde : d ≤ e) (h1 : ∀ x ∈ a1, dd x ≤ d) (h2 : ∀ x ∈ a2 ++ b2, d < dd x) (h3 : ∀ x ∈ a2, dd x ≤ e) (h4 : ∀ x ∈ b2, e < dd x) :
    wantOf dd d e (a1 ++ (a2 ++ b2)) = a1.map (fun x => (x, 0)) ++ a2.map (fun x => (x, 1)) := by
  unfold wantOf
  rw [List.filterMap_append, List.filterMap_append]
  have e1 : ∀ l : List Nat, (∀ x ∈ l, dd x ≤ d) → l.filterMap (fun i => if dd i ≤ d then some (i, (0 : Int)) else if dd i ≤ e then some (i, 1) else none) = l.map (fun x => (x, 0)) := by
    intro l
    induction l with
    | nil => intro _; rfl
    | cons x l ih =>
      intro h
      rw [List.filterMap_cons, if_pos (h x (by simp)), ih (fun y hy => h y (by simp [hy]))]
      rfl
  have e2 : ∀ l : List Nat, (∀ x ∈ l, d < dd x ∧ dd x ≤ e) → l.filterMap (fun i => if dd i ≤ d then some (i, (0 : Int)) else if dd i ≤ e then some (i, 1) else none) = l.map (fun x => (x, 1)) := by
    intro l
    induction l with
    | nil => intro _; rfl
    | cons x l ih =>
      intro h
      have hx := h x (by simp)
      rw [List.filterMap_cons, if_neg (by omega), if_pos hx.2, ih (fun y hy => h y (by simp [hy]))]
      rfl
  have e3 : ∀ l : List Nat, (∀ x ∈ l, e < dd x) → l.filterMap (fun i => if dd i ≤ d then some (i, (0 : Int)) else if dd i ≤ e then some (i, 1) else none) = [] := by
    intro l
    induction l with
    | nil => intro _; rfl
    | cons x l ih =>
      intro h
      have hx := h x (by simp)
      rw [List.filterMap_cons, if_neg (by omega), if_neg (by omega), ih (fun y hy => h y (by simp [hy]))]
  rw [e1 a1 h1, e2 a2 (fun x hx => ⟨h2 x (by simp [hx]), h3 x hx⟩), e3 b2 h4, List.append_nil]
theorem want_snoc (dd : Nat → Nat) (d e : Nat) (l : List Nat) (i : Nat) : wantOf dd d e (l ++ [i]) = wantOf dd d e l ++ (if dd i ≤ d then [(i, 0)] else if dd i ≤ e then [(i, 1)] else []) := by
  unfold wantOf
  rw [List.filterMap_append]
  congr 1
  by_cases h1 : dd i ≤ d
  · simp [h1]
  · by_cases h2 : dd i ≤ e
    · simp [h1, h2]
    · simp [h1, h2]
theorem want_len (dd : Nat → Nat) (d e : Nat) (l : List Nat) : (wantOf dd d e l).length ≤ l.length := List.length_filterMap_le _ _
end Go.Proofs.Ybulkdask.Ord
