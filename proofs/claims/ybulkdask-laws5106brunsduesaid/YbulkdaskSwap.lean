import Derived.Test.YbulkdaskLess
import Derived.Test.YbulkdaskHeap
namespace Go.Proofs.Ybulkdask.Hp
open Go.RowKit Go.Proofs.Ybulkdask.Tm
set_option linter.unusedSimpArgs false
set_option linter.unusedVariables false

/-- The world behind a swap of the places i and j, which hold A's and B's timers. -/
def swapped (w : World) (g i j A B : Nat) : World := ((((w.setCell ⟨g, i, none⟩ (.pointer (some ⟨B, 0, none⟩))).setCell ⟨g, j, none⟩ (.pointer (some ⟨A, 0, none⟩))).setCell ⟨B, 6, none⟩ (.int .i64 i)).setCell ⟨A, 6, none⟩ (.int .i64 j)).drew

set_option maxHeartbeats 1600000 in
set_option maxRecDepth 100000 in
/-- '(timerHeap).Swap'. -/
theorem swap0 (g n cap i j A B : Nat) (cur : Array Value) (va vb : Array Value) (w : World) (hi : i < n) (hj : j < n) (hn : n ≤ 1024) (hij : i = j → A = B) (hc : n ≤ cur.size)
    (hg : Bk w g cur 93) (ci : cur[i]? = some (.pointer (some ⟨A, 0, none⟩))) (cj : cur[j]? = some (.pointer (some ⟨B, 0, none⟩)))
    (hA : Bk w A va 95) (hB : Bk w B vb 95) (hva : va.size = 7) (hvb : vb.size = 7) :
    Calls Yba.prog 111 #[.slice (some ⟨g, 0, none⟩) n cap, .int .i64 (i : Int), .int .i64 (j : Int)] w fun e w' => e = .returned (.tuple #[]) ∧ w' = swapped w g i j A B := by
  have hi1 : (i : Int) < (n : Int) := by omega
  have hj1 : (j : Int) < (n : Int) := by omega
  have c1 : w.cell? ⟨g, i, none⟩ = some (.pointer (some ⟨A, 0, none⟩)) := hg.cell i ci
  have c2 : w.cell? ⟨g, j, none⟩ = some (.pointer (some ⟨B, 0, none⟩)) := hg.cell j cj
  have f1 : w.frozen? ⟨g, i, none⟩ = false := hg.free i
  have f2 : w.frozen? ⟨g, j, none⟩ = false := hg.free j
  have n1 : g ≠ A := Bk.ne hg hA (by decide)
  have n2 : g ≠ B := Bk.ne hg hB (by decide)
  have hg2 := (hg.set i (.pointer (some ⟨B, 0, none⟩))).set j (.pointer (some ⟨A, 0, none⟩))
  have e0 : (w.setCell ⟨g, i, none⟩ (.pointer (some ⟨B, 0, none⟩))).cell? ⟨g, j, none⟩ = some (.pointer (some ⟨B, 0, none⟩)) := by
    refine Bk.cell (hg.set i (.pointer (some ⟨B, 0, none⟩))) j ?_
    rw [Array.getElem?_setIfInBounds]
    by_cases h : i = j
    · rw [if_pos h, if_pos (by omega)]
    · rw [if_neg h, cj]
  have e1 : ((w.setCell ⟨g, i, none⟩ (.pointer (some ⟨B, 0, none⟩))).setCell ⟨g, j, none⟩ (.pointer (some ⟨A, 0, none⟩))).cell? ⟨g, i, none⟩ = some (.pointer (some ⟨B, 0, none⟩)) := by
    refine Bk.cell (hg.set i (.pointer (some ⟨B, 0, none⟩)) |>.set j (.pointer (some ⟨A, 0, none⟩))) i ?_
    rw [Array.getElem?_setIfInBounds]
    by_cases h : j = i
    · rw [if_pos h, if_pos (by simp; omega), hij h.symm]
    · rw [if_neg h, Array.getElem?_setIfInBounds, if_pos rfl, if_pos (by omega)]
  have e2 : ((w.setCell ⟨g, i, none⟩ (.pointer (some ⟨B, 0, none⟩))).setCell ⟨g, j, none⟩ (.pointer (some ⟨A, 0, none⟩))).cell? ⟨g, j, none⟩ = some (.pointer (some ⟨A, 0, none⟩)) := by
    refine Bk.cell (hg.set i (.pointer (some ⟨B, 0, none⟩)) |>.set j (.pointer (some ⟨A, 0, none⟩))) j ?_
    rw [Array.getElem?_setIfInBounds, if_pos rfl, if_pos (by simp; omega)]
  have fA := hA.free 6
  have fB := hB.free 6
  have cA : w.cell? ⟨A, 6, none⟩ = some va[6] := hA.cell 6 (by simp [hva])
  have cB : w.cell? ⟨B, 6, none⟩ = some vb[6] := hB.cell 6 (by simp [hvb])
  obtain ⟨x3, e3⟩ : ∃ x, (((w.setCell ⟨g, i, none⟩ (.pointer (some ⟨B, 0, none⟩))).setCell ⟨g, j, none⟩ (.pointer (some ⟨A, 0, none⟩))).setCell ⟨B, 6, none⟩ (.int .i64 i)).cell? ⟨A, 6, none⟩ = some x := by
    have hA2 := (hA.put (a := ⟨g, i, none⟩) (v := .pointer (some ⟨B, 0, none⟩)) n1.symm).put (a := ⟨g, j, none⟩) (v := .pointer (some ⟨A, 0, none⟩)) n1.symm
    by_cases h : A = B
    · subst h
      exact ⟨_, (hA2.set 6 (.int .i64 i)).cell 6 (v := .int .i64 i) (by simp [hva])⟩
    · exact ⟨_, (hA2.put (a := ⟨B, 6, none⟩) (v := .int .i64 i) h).cell 6 (v := va[6]) (by simp [hva])⟩
  clear hg2
  go_enter Yba.func111, Yba.ntmps111
  go_upto_region 0 with fail
  go_region
  go_wp2_with fail
  refine bodyPost_end (results_none rfl _ _ _) rfl ⟨rfl, rfl⟩

/-- A timer's block: its index is not told. -/
def Tim (w : World) (B M : Nat) (P dd : Nat → Nat) (fv : Nat → Value) (i : Nat) : Prop :=
  B ≤ P i ∧ ∃ idx : Int, Bk w (P i) #[.pointer (some ⟨M, 0, none⟩), .int .u64 (dd i : Int), .int .i64 0, .pointer none, .int .u64 (i : Int), fv i, .int .i64 idx] 95

def ptr (P : Nat → Nat) (i : Nat) : Value := .pointer (some ⟨P i, 0, none⟩)

/-- The pending timers' row and all timers ever made. -/
structure HeapAt (w : World) (B M : Nat) (P dd : Nat → Nat) (fv : Nat → Value) (N : Nat) (pend : Value) (h : List Nat) : Prop where
  own : w.ownsRow B 93 1 pend h.length (h.map (ptr P))
  tim : ∀ i, i < N → Tim w B M P dd fv i
  mem : ∀ i ∈ h, i < N

theorem Tim.set6 {w : World} {B M : Nat} {P dd : Nat → Nat} {fv : Nat → Value} {i : Nat} (h : Tim w B M P dd fv i) (b : Nat) (idx : Int) : Tim (w.setCell ⟨b, 6, none⟩ (.int .i64 idx)) B M P dd fv i := by
  obtain ⟨hB, id0, hb⟩ := h
  refine ⟨hB, ?_⟩
  by_cases e : P i = b
  · subst e
    exact ⟨idx, hb.set 6 (.int .i64 idx)⟩
  · exact ⟨id0, hb.put e⟩
theorem Tim.put {w : World} {B M : Nat} {P dd : Nat → Nat} {fv : Nat → Value} {i b k : Nat} {vs : Array Value} {t : TypeId} (h : Tim w B M P dd fv i) (hb : Bk w b vs t) (ht : t ≠ 95) (v : Value) : Tim (w.setCell ⟨b, k, none⟩ v) B M P dd fv i := by
  obtain ⟨hB, id0, hi⟩ := h
  exact ⟨hB, id0, hi.put (Bk.ne hi hb (Ne.symm ht))⟩
theorem Tim.fr {w w' : World} {B B' M : Nat} {P dd : Nat → Nat} {fv : Nat → Value} {i : Nat} {Ts : List TypeId} (h : Tim w B M P dd fv i) (k : Fr B' Ts w w') (ht : 95 ∉ Ts) : Tim w' B M P dd fv i := by
  obtain ⟨hB, id0, hi⟩ := h
  exact ⟨hB, id0, hi.fr k ht⟩
theorem HeapAt.fr {w w' : World} {B B' M : Nat} {P dd : Nat → Nat} {fv : Nat → Value} {N : Nat} {pend : Value} {h : List Nat} {Ts : List TypeId} (H : HeapAt w B M P dd fv N pend h) (k : Fr B' Ts w w') (ht : 95 ∉ Ts) (ht2 : 93 ∉ Ts) : HeapAt w' B M P dd fv N pend h :=
  ⟨own_fr H.own k ht2, fun i hi => (H.tim i hi).fr k ht, H.mem⟩
theorem HeapAt.below {w w' : World} {B M : Nat} {P dd : Nat → Nat} {fv : Nat → Value} {N : Nat} {pend : Value} {h : List Nat} (H : HeapAt w B M P dd fv N pend h) (k : Below w.heap.size w w') : HeapAt w' B M P dd fv N pend h :=
  H.fr (Fr.ofBelow (B := 0) (Ts := []) k) (by simp) (by simp)

/-- The row, opened. -/
theorem HeapAt.open {w : World} {B M : Nat} {P dd : Nat → Nat} {fv : Nat → Value} {N : Nat} {pend : Value} {h : List Nat} (H : HeapAt w B M P dd fv N pend h) (h0 : 0 < h.length) :
    ∃ g cap cur, pend = .slice (some ⟨g, 0, none⟩) h.length cap ∧ B ≤ g ∧ Bk w g cur 93 ∧ h.length ≤ cap ∧ cap ≤ maxLen ∧ cur.size = cap ∧ (∀ i, i < h.length → cur[i]? = some (ptr P (Ord.at' h i))) ∧ cur.toList.take h.length = h.map (ptr P) := by
  obtain ⟨hl, ⟨_, h1⟩ | ⟨g, cap, cur, rfl, hB, hh, hle, hm, hs, ht⟩⟩ := H.own
  · omega
  · rw [Nat.mul_one] at ht hs
    refine ⟨g, cap, cur, rfl, hB, hh, hle, hm, hs, ?_, ht⟩
    intro i hi
    have : (cur.toList.take h.length)[i]? = (h.map (ptr P))[i]? := by rw [ht]
    rw [List.getElem?_take, if_pos hi, Array.getElem?_toList, List.getElem?_map, List.getElem?_eq_getElem hi] at this
    rw [this, Ord.at_lt h i hi]
    rfl

theorem swapped_row (cur : Array Value) (h : List Nat) (P : Nat → Nat) (i j : Nat) (ht : cur.toList.take h.length = h.map (ptr P)) :
    ((cur.setIfInBounds i (ptr P (Ord.at' h j))).setIfInBounds j (ptr P (Ord.at' h i))).toList.take h.length = (Ord.swap h i j).map (ptr P) := by
  rw [Array.toList_setIfInBounds, Array.toList_setIfInBounds, List.take_set, List.take_set, ht]
  simp only [Ord.swap, List.map_set]

/-- '(timerHeap).Swap'. -/
theorem swap_any (w : World) (B M : Nat) (P dd : Nat → Nat) (fv : Nat → Value) (N : Nat) (pend : Value) (h : List Nat) (i j : Nat) (H : HeapAt w B M P dd fv N pend h) (hi : i < h.length) (hj : j < h.length) (hn : h.length ≤ 1024) :
    Calls Yba.prog 111 #[pend, .int .i64 (i : Int), .int .i64 (j : Int)] w fun e w' => e = .returned (.tuple #[]) ∧ HeapAt w' B M P dd fv N pend (Ord.swap h i j) ∧ Fr B [93, 95] w w' := by
  obtain ⟨g, cap, cur, rfl, hB, hg, hle, hm, hs, hcell, ht⟩ := H.open (by omega)
  obtain ⟨hBa, ia, ha⟩ := H.tim (Ord.at' h i) (H.mem _ (Ord.at_mem h i hi))
  obtain ⟨hBb, ib, hb⟩ := H.tim (Ord.at' h j) (H.mem _ (Ord.at_mem h j hj))
  refine (swap0 g h.length cap i j (P (Ord.at' h i)) (P (Ord.at' h j)) cur _ _ w hi hj hn (fun e => by rw [e]) (by omega) hg (hcell i hi) (hcell j hj) ha hb rfl rfl).mono ?_
  rintro e w' ⟨rfl, rfl⟩
  refine ⟨rfl, ⟨?_, ?_, ?_⟩, ?_⟩
  · refine ⟨by simp, .inr ⟨g, cap, _, ?_, hB, (((hg.set i (ptr P (Ord.at' h j))).set j (ptr P (Ord.at' h i))).put (a := ⟨P (Ord.at' h j), 6, none⟩) (v := .int .i64 i) ?_).put (a := ⟨P (Ord.at' h i), 6, none⟩) (v := .int .i64 j) ?_, ?_, hm, ?_, ?_⟩⟩
    · rw [Ord.len_swap]
    · exact Bk.ne hg hb (by decide)
    · exact Bk.ne hg ha (by decide)
    · rw [Ord.len_swap]; exact hle
    · simp [hs]
    · rw [Ord.len_swap, Nat.mul_one]
      exact swapped_row cur h P i j ht
  · intro k hk
    exact ((((H.tim k hk).put hg (by decide) _).put (hg.set i (ptr P (Ord.at' h j))) (by decide) _).set6 _ _).set6 _ _
  · intro k hk
    exact H.mem k ((Ord.swap_perm h i j hi hj).mem_iff.1 hk)
  · have t1 := ((H.tim _ (H.mem _ (Ord.at_mem h i hi))).put hg (by decide) (k := i) (ptr P (Ord.at' h j))).put (hg.set i (ptr P (Ord.at' h j))) (by decide) (k := j) (ptr P (Ord.at' h i))
    have t2 := ((H.tim _ (H.mem _ (Ord.at_mem h j hj))).put hg (by decide) (k := i) (ptr P (Ord.at' h j))).put (hg.set i (ptr P (Ord.at' h j))) (by decide) (k := j) (ptr P (Ord.at' h i))
    obtain ⟨_, _, t1'⟩ := t1.set6 (P (Ord.at' h j)) i
    obtain ⟨_, _, t2'⟩ := t2
    exact (((((Fr.refl B [93, 95] w).set hg hB (by decide) _).set (hg.set i (ptr P (Ord.at' h j))) hB (by decide) _).set t2' hBb (by decide) _).set t1' hBa (by decide) _).drew

/-- '(timerHeap).Less'. -/
theorem less_any (w : World) (B M : Nat) (P dd : Nat → Nat) (fv : Nat → Value) (N : Nat) (pend : Value) (h : List Nat) (i j : Nat) (H : HeapAt w B M P dd fv N pend h) (hi : i < h.length) (hj : j < h.length) (hn : h.length ≤ 1024) (hd : ∀ i, dd i < 1000) :
    Calls Yba.prog 110 #[pend, .int .i64 (i : Int), .int .i64 (j : Int)] w fun e w' => (∃ b : Bool, (b = true ↔ Ord.lt dd (Ord.at' h i) (Ord.at' h j)) ∧ e = .returned (.bool b)) ∧ Below w.heap.size w w' := by
  obtain ⟨g, cap, cur, rfl, hB, hg, hle, hm, hs, hcell, ht⟩ := H.open (by omega)
  obtain ⟨hBa, ia, ha⟩ := H.tim (Ord.at' h i) (H.mem _ (Ord.at_mem h i hi))
  obtain ⟨hBb, ib, hb⟩ := H.tim (Ord.at' h j) (H.mem _ (Ord.at_mem h j hj))
  have d1 := hd (Ord.at' h i)
  have d2 := hd (Ord.at' h j)
  refine (less g h.length cap i j (P (Ord.at' h i)) (P (Ord.at' h j)) (dd (Ord.at' h i)) (dd (Ord.at' h j)) (Ord.at' h i) (Ord.at' h j) w hi hj hn (hg.cell i (hcell i hi)) (hg.cell j (hcell j hj)) (ha.cell 1 rfl) (ha.cell 2 rfl) (ha.cell 3 rfl) (ha.cell 4 rfl) (hb.cell 1 rfl) (hb.cell 2 rfl) (hb.cell 3 rfl) (hb.cell 4 rfl) hg.lt ha.lt hb.lt (by omega) (by omega) (by omega) (by omega)).mono ?_
  rintro e w' ⟨rfl, hw⟩
  refine ⟨⟨_, ?_, rfl⟩, hw⟩
  rw [decide_eq_true_iff]
  unfold Ord.lt
  omega
end Go.Proofs.Ybulkdask.Hp
