import Derived.Test.YbulkdaskAdvB
import Derived.Test.YbulkdaskSort
import Derived.Laws.MakeOwn
import Derived.Laws.StructEq
namespace Go.Proofs.Ybulkdask.Hp
open Go.RowKit Go.Proofs.Ybulkdask.Tm Go.Proofs.Ybulkdask.Clk Go.Proofs.Ybulkdask.Lk
set_option linter.unusedSimpArgs false
set_option linter.unusedVariables false

/-- A row of numbers. -/
def toA (o : List Nat) : Array Value := (o.map (fun (i : Nat) => Value.int .i64 (i : Int))).toArray

theorem toA_set (o : List Nat) (i v : Nat) : toA (o.set i v) = (toA o).setIfInBounds i (.int .i64 (v : Int)) := by
  simp [toA, List.map_set]
theorem toA_get (o : List Nat) (i : Nat) (h : i < o.length) : (toA o)[i]? = some (.int .i64 ((Ord.at' o i : Nat) : Int)) := by
  rw [Ord.at_lt o i h]
  simp [toA, h]

theorem inf3 : ∃ i, Yba.prog.info? 3 = some i ∧ i.zero = some (.int .i64 0) ∧ i.size = 1 ∧ i.bytes = 8 := by
  have h : (Yba.prog.info? 3).map (fun i => (i.zero, i.size, i.bytes)) = some (some (.int .i64 0), 1, 8) := by kernel_rfl
  obtain ⟨i, hi, he⟩ := Option.map_eq_some_iff.1 h
  simp only [Prod.mk.injEq] at he
  exact ⟨i, hi, he.1, he.2.1, he.2.2⟩
theorem made (n : Nat) : madeCells #[.int .i64 0] n = toA (List.replicate n 0) := by
  apply Array.ext
  · simp [madeCells, toA]
  · intro i h1 h2
    simp [madeCells, toA, Nat.mod_one]
theorem make_ints (n : Nat) (hl : n ≤ 1024) (w : World) : (Instr.makeSlice 41 (.int .i64 (n : Int)) (.int .i64 (n : Int))).run Yba.prog w = .ok (.slice (some ⟨w.heap.size, 0, none⟩) n n) (w.alloc (.cells (toA (List.replicate n 0)) 3)) := by
  obtain ⟨i0, hi, hz0, hz1, hz2⟩ := inf3
  have := run_make (P := Yba.prog) w 41 3 i0 (.int .i64 0) Yba.underlying41 hi hz0 .i64 .i64 (n : Int) (n : Int) (by omega) (by omega) (by rw [hz2]; omega) (by omega)
  rw [hz1] at this
  rw [← made]
  simpa [Value.cells] using this

theorem range_of (o : List Nat) (n : Nat) (hl : o.length = n) (h : ∀ j, j < n → Ord.at' o j = j) : o = List.range n := by
  apply List.ext_getElem
  · simp [hl]
  · intro i h1 h2
    rw [← Ord.at_lt o i h1, h i (by omega)]
    simp

theorem at_mid (A C : List Nat) (x : Nat) : Ord.at' (A ++ x :: C) A.length = x := by
  simp [Ord.at']
theorem at_prev (A C : List Nat) (p x : Nat) : Ord.at' ((A ++ [p]) ++ x :: C) A.length = p := by
  simp [Ord.at']

theorem evc_get (dd : Nat → Nat) : ∀ (l : List (Nat × Int)) (m : Nat) (h : m < l.length), (evc dd l)[m * 3]? = some (.int .i64 (l[m].1 : Int)) ∧ (evc dd l)[m * 3 + 1]? = some (.int .i64 (dd l[m].1 : Int)) ∧ (evc dd l)[m * 3 + 2]? = some (.int .i64 l[m].2)
  | [], m, h => absurd h (by simp)
  | e :: l, 0, h => by simp [evc]
  | e :: l, m + 1, h => by
    have := evc_get dd l m (by simpa using h)
    have e3 : (m + 1) * 3 = m * 3 + 1 + 1 + 1 := by omega
    simp only [evc, List.flatMap_cons] at this ⊢
    rw [e3]
    simpa using this

/-- A row's cells. -/
theorem own_cells {w : World} {B : Nat} {v : Value} {l : List (Nat × Int)} {dd : Nat → Nat} (h : w.ownsRow B 39 3 v l.length (evc dd l)) (h0 : 0 < l.length) :
    ∃ g cap, v = .slice (some ⟨g, 0, none⟩) l.length cap ∧ g < w.heap.size ∧ ∀ m (hm : m < l.length), w.cell? ⟨g, m * 3, none⟩ = some (.int .i64 (l[m].1 : Int)) ∧ w.cell? ⟨g, m * 3 + 1, none⟩ = some (.int .i64 (dd l[m].1 : Int)) ∧ w.cell? ⟨g, m * 3 + 2, none⟩ = some (.int .i64 l[m].2) := by
  rcases h.2 with ⟨_, h1⟩ | ⟨g, cap, cur, rfl, hB, hh, hle, hm, hs, ht⟩
  · omega
  · refine ⟨g, cap, rfl, Bk.lt (show Bk w g cur 39 from hh), ?_⟩
    intro m hml
    have hget : ∀ j, j < l.length * 3 → cur[j]? = (evc dd l)[j]? := by
      intro j hj
      rw [← ht, List.getElem?_take, if_pos hj, Array.getElem?_toList]
    obtain ⟨e1, e2, e3⟩ := evc_get dd l m hml
    have hb : Bk w g cur 39 := hh
    exact ⟨hb.cell _ ((hget _ (by omega)).trans e1), hb.cell _ ((hget _ (by omega)).trans e2), hb.cell _ ((hget _ (by omega)).trans e3)⟩

theorem ev_neq (x y z : Int) (w : World) : (binOp .neq 39 (.agg #[.int .i64 x, .int .i64 y, .int .i64 z]) (.agg #[.int .i64 x, .int .i64 y, .int .i64 z])).run Yba.prog w = .ok (.bool false) w := by
  have hs : Yba.prog.stoodInHeld 39 = false := by kernel_rfl
  have hf : Yba.prog.underlying 39 = some (.struct (Yba.prog.fieldsOf 39)) := by simp [Program.fieldsOf, Yba.underlying39]
  rw [run_neq_struct, run_equalIn_struct w 9999 39 _ _ hf hs]
  simp [Program.fieldsOf, Yba.underlying39, Op.eqFields, go_sem]
end Go.Proofs.Ybulkdask.Hp
