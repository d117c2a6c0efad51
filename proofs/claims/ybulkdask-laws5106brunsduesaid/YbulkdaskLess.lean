import Derived.Test.YbulkdaskTimeSub
import Derived.Test.YbulkdaskBlk
import Derived.Deep.RegionHeld3
import Derived.Deep.DeepCutAuto
import Derived.BigQuiet
namespace Go.Proofs.Ybulkdask.Hp
open Go.RowKit Go.Proofs.Ybulkdask.Tm
set_option linter.unusedSimpArgs false
set_option linter.unusedVariables false

/-- '(timerHeap).Len'. -/
theorem len (a : Option Addr) (n cap : Nat) (w : World) : Calls Yba.prog 109 #[.slice a n cap] w fun e w' => e = .returned (.int .i64 (n : Int)) ∧ w' = w := by
  go_enter Yba.func109, Yba.ntmps109
  go_wp2
  go_ret
  exact ⟨rfl, rfl⟩

set_option maxHeartbeats 1600000 in
set_option maxRecDepth 100000 in
/-- '(timerHeap).Less'. -/
theorem less (g n cap i j A B : Nat) (da db sa sb : Int) (w : World) (hi : i < n) (hj : j < n) (hn : n ≤ 1024)
    (ci : w.cell? ⟨g, i, none⟩ = some (.pointer (some ⟨A, 0, none⟩))) (cj : w.cell? ⟨g, j, none⟩ = some (.pointer (some ⟨B, 0, none⟩)))
    (a1 : w.cell? ⟨A, 1, none⟩ = some (.int .u64 da)) (a2 : w.cell? ⟨A, 2, none⟩ = some (.int .i64 0)) (a3 : w.cell? ⟨A, 3, none⟩ = some (.pointer none)) (a4 : w.cell? ⟨A, 4, none⟩ = some (.int .u64 sa))
    (b1 : w.cell? ⟨B, 1, none⟩ = some (.int .u64 db)) (b2 : w.cell? ⟨B, 2, none⟩ = some (.int .i64 0)) (b3 : w.cell? ⟨B, 3, none⟩ = some (.pointer none)) (b4 : w.cell? ⟨B, 4, none⟩ = some (.int .u64 sb))
    (hg : g < w.heap.size) (hA : A < w.heap.size) (hB : B < w.heap.size)
    (da0 : 0 ≤ da) (da1 : da < 1000000000) (db0 : 0 ≤ db) (db1 : db < 1000000000) :
    Calls Yba.prog 110 #[.slice (some ⟨g, 0, none⟩) n cap, .int .i64 (i : Int), .int .i64 (j : Int)] w fun e w' => e = .returned (.bool (decide (da < db ∨ (da = db ∧ sa < sb)))) ∧ Below w.heap.size w w' := by
  have HEQ : Hid (∀ w, Calls Yba.prog 17 #[.agg #[.int .u64 da, .int .i64 0, .pointer none], .agg #[.int .u64 db, .int .i64 0, .pointer none]] w fun e w' => e = .returned (.bool (da == db)) ∧ Below w.heap.size w w') := by
    show ∀ w, _
    intro w
    simpa using equal_any da 0 db 0 w da0 da1 db0 db1
  have HBF : Hid (∀ w, Calls Yba.prog 25 #[.agg #[.int .u64 da, .int .i64 0, .pointer none], .agg #[.int .u64 db, .int .i64 0, .pointer none]] w fun e w' => e = .returned (.bool (decide (da < db))) ∧ Below w.heap.size w w') := by
    show ∀ w, _
    intro w
    simpa using before_any da 0 db 0 w da0 da1 db0 db1
  have hi1 : (i : Int) < (n : Int) := by omega
  have hj1 : (j : Int) < (n : Int) := by omega
  go_enter Yba.func110, Yba.ntmps110
  go_upto_region 1 with fail
  go_cut [21] (fun v wc => v = .bool (da == db) ∧ Below w.heap.size w wc)
  case first =>
    refine wp_region_held_drew (S := (fun w' => w'.cell? ⟨g, i, none⟩ = some (.pointer (some ⟨A, 0, none⟩)) ∧ w'.cell? ⟨g, j, none⟩ = some (.pointer (some ⟨B, 0, none⟩)) ∧ w'.cell? ⟨A, 1, none⟩ = some (.int .u64 da) ∧ w'.cell? ⟨A, 2, none⟩ = some (.int .i64 0) ∧ w'.cell? ⟨A, 3, none⟩ = some (.pointer none) ∧ w'.cell? ⟨B, 1, none⟩ = some (.int .u64 db) ∧ w'.cell? ⟨B, 2, none⟩ = some (.int .i64 0) ∧ w'.cell? ⟨B, 3, none⟩ = some (.pointer none))) (by kernel_rfl) (by go_keep) (fun hHeld => ?_)
    refine wpAnyH_take (i := 0) (oi := { dst := some 7, op := Go.Op.move (Go.Operand.tmp 0), type := 81, pos := "manual.go:150", after := #[], guard := none }) (v := .slice (some ⟨g, 0, none⟩) n cap) rfl (by kernel_rfl) (by kernel_rfl) (by kernel_rfl) (fun _ _ _ h => h) (Or.inl ⟨by rfl, (fun w hSw => by (try dsimp only at hSw); go_simp)⟩) (by assumption) ?_
    try simp only [Act.put, List.setIfInBounds_toArray, List.set_cons_zero, List.set_cons_succ]
    refine wpAnyH_take (i := 1) (oi := { dst := some 8, op := Go.Op.move (Go.Operand.tmp 1), type := 3, pos := "manual.go:150", after := #[], guard := none }) (v := .int .i64 (i : Int)) rfl (by kernel_rfl) (by kernel_rfl) (by kernel_rfl) (fun _ _ _ h => h) (Or.inl ⟨by rfl, (fun w hSw => by (try dsimp only at hSw); go_simp)⟩) (by assumption) ?_
    try simp only [Act.put, List.setIfInBounds_toArray, List.set_cons_zero, List.set_cons_succ]
    refine wpAnyH_take (i := 2) (oi := { dst := some 9, op := Go.Op.indexAddr 81 (Go.Operand.tmp 7) (Go.Operand.tmp 8), type := 0, pos := "manual.go:150", after := #[{ on := 0, ground := Go.Ground.data }, { on := 1, ground := Go.Ground.data }], guard := none }) (v := .pointer (some ⟨g, i, none⟩)) rfl (by kernel_rfl) (by kernel_rfl) (by kernel_rfl) (fun _ _ _ h => h) (Or.inl ⟨by rfl, (fun w hSw => by (try dsimp only at hSw); go_simp)⟩) (by assumption) ?_
    try simp only [Act.put, List.setIfInBounds_toArray, List.set_cons_zero, List.set_cons_succ]
    refine wpAnyH_take (i := 3) (oi := { dst := some 10, op := Go.Op.load 93 (Go.Operand.tmp 9), type := 93, pos := "manual.go:150", after := #[{ on := 2, ground := Go.Ground.data }], guard := none }) (v := .pointer (some ⟨A, 0, none⟩)) rfl (by kernel_rfl) (by kernel_rfl) (by kernel_rfl) (fun _ _ _ h => h) (Or.inl ⟨by rfl, (fun w hSw => by (try dsimp only at hSw); go_simp)⟩) (by assumption) ?_
    try simp only [Act.put, List.setIfInBounds_toArray, List.set_cons_zero, List.set_cons_succ]
    refine wpAnyH_take (i := 4) (oi := { dst := some 11, op := Go.Op.nilCheck (Go.Operand.tmp 10), type := 0, pos := "manual.go:150", after := #[{ on := 3, ground := Go.Ground.data }], guard := none }) (v := .pointer (some ⟨A, 0, none⟩)) rfl (by kernel_rfl) (by kernel_rfl) (by kernel_rfl) (fun _ _ _ h => h) (Or.inl ⟨by rfl, (fun w hSw => by (try dsimp only at hSw); go_simp)⟩) (by assumption) ?_
    try simp only [Act.put, List.setIfInBounds_toArray, List.set_cons_zero, List.set_cons_succ]
    refine wpAnyH_take (i := 5) (oi := { dst := some 12, op := Go.Op.fieldAddr 95 (Go.Operand.tmp 11) 1, type := 0, pos := "manual.go:150", after := #[{ on := 4, ground := Go.Ground.data }], guard := none }) (v := .pointer (some ⟨A, 1, none⟩)) rfl (by kernel_rfl) (by kernel_rfl) (by kernel_rfl) (fun _ _ _ h => h) (Or.inl ⟨by rfl, (fun w hSw => by (try dsimp only at hSw); go_simp)⟩) (by assumption) ?_
    try simp only [Act.put, List.setIfInBounds_toArray, List.set_cons_zero, List.set_cons_succ]
    refine wpAnyH_take (i := 6) (oi := { dst := some 13, op := Go.Op.load 27 (Go.Operand.tmp 12), type := 27, pos := "manual.go:150", after := #[{ on := 5, ground := Go.Ground.data }], guard := none }) (v := .agg #[.int .u64 da, .int .i64 0, .pointer none]) rfl (by kernel_rfl) (by kernel_rfl) (by kernel_rfl) (fun _ _ _ h => h) (Or.inl ⟨by rfl, (fun w hSw => by (try dsimp only at hSw); go_simp)⟩) (by assumption) ?_
    try simp only [Act.put, List.setIfInBounds_toArray, List.set_cons_zero, List.set_cons_succ]
    refine wpAnyH_take (i := 7) (oi := { dst := some 14, op := Go.Op.move (Go.Operand.tmp 0), type := 81, pos := "manual.go:150", after := #[], guard := none }) (v := .slice (some ⟨g, 0, none⟩) n cap) rfl (by kernel_rfl) (by kernel_rfl) (by kernel_rfl) (fun _ _ _ h => h) (Or.inl ⟨by rfl, (fun w hSw => by (try dsimp only at hSw); go_simp)⟩) (by assumption) ?_
    try simp only [Act.put, List.setIfInBounds_toArray, List.set_cons_zero, List.set_cons_succ]
    refine wpAnyH_take (i := 8) (oi := { dst := some 15, op := Go.Op.move (Go.Operand.tmp 2), type := 3, pos := "manual.go:150", after := #[], guard := none }) (v := .int .i64 (j : Int)) rfl (by kernel_rfl) (by kernel_rfl) (by kernel_rfl) (fun _ _ _ h => h) (Or.inl ⟨by rfl, (fun w hSw => by (try dsimp only at hSw); go_simp)⟩) (by assumption) ?_
    try simp only [Act.put, List.setIfInBounds_toArray, List.set_cons_zero, List.set_cons_succ]
    refine wpAnyH_take (i := 9) (oi := { dst := some 16, op := Go.Op.indexAddr 81 (Go.Operand.tmp 14) (Go.Operand.tmp 15), type := 0, pos := "manual.go:150", after := #[{ on := 7, ground := Go.Ground.data }, { on := 8, ground := Go.Ground.data }], guard := none }) (v := .pointer (some ⟨g, j, none⟩)) rfl (by kernel_rfl) (by kernel_rfl) (by kernel_rfl) (fun _ _ _ h => h) (Or.inl ⟨by rfl, (fun w hSw => by (try dsimp only at hSw); go_simp)⟩) (by assumption) ?_
    try simp only [Act.put, List.setIfInBounds_toArray, List.set_cons_zero, List.set_cons_succ]
    refine wpAnyH_take (i := 10) (oi := { dst := some 17, op := Go.Op.load 93 (Go.Operand.tmp 16), type := 93, pos := "manual.go:150", after := #[{ on := 9, ground := Go.Ground.data }], guard := none }) (v := .pointer (some ⟨B, 0, none⟩)) rfl (by kernel_rfl) (by kernel_rfl) (by kernel_rfl) (fun _ _ _ h => h) (Or.inl ⟨by rfl, (fun w hSw => by (try dsimp only at hSw); go_simp)⟩) (by assumption) ?_
    try simp only [Act.put, List.setIfInBounds_toArray, List.set_cons_zero, List.set_cons_succ]
    refine wpAnyH_take (i := 11) (oi := { dst := some 18, op := Go.Op.nilCheck (Go.Operand.tmp 17), type := 0, pos := "manual.go:150", after := #[{ on := 10, ground := Go.Ground.data }], guard := none }) (v := .pointer (some ⟨B, 0, none⟩)) rfl (by kernel_rfl) (by kernel_rfl) (by kernel_rfl) (fun _ _ _ h => h) (Or.inl ⟨by rfl, (fun w hSw => by (try dsimp only at hSw); go_simp)⟩) (by assumption) ?_
    try simp only [Act.put, List.setIfInBounds_toArray, List.set_cons_zero, List.set_cons_succ]
    refine wpAnyH_take (i := 12) (oi := { dst := some 19, op := Go.Op.fieldAddr 95 (Go.Operand.tmp 18) 1, type := 0, pos := "manual.go:150", after := #[{ on := 11, ground := Go.Ground.data }], guard := none }) (v := .pointer (some ⟨B, 1, none⟩)) rfl (by kernel_rfl) (by kernel_rfl) (by kernel_rfl) (fun _ _ _ h => h) (Or.inl ⟨by rfl, (fun w hSw => by (try dsimp only at hSw); go_simp)⟩) (by assumption) ?_
    try simp only [Act.put, List.setIfInBounds_toArray, List.set_cons_zero, List.set_cons_succ]
    refine wpAnyH_take (i := 13) (oi := { dst := some 20, op := Go.Op.load 27 (Go.Operand.tmp 19), type := 27, pos := "manual.go:150", after := #[{ on := 12, ground := Go.Ground.data }], guard := none }) (v := .agg #[.int .u64 db, .int .i64 0, .pointer none]) rfl (by kernel_rfl) (by kernel_rfl) (by kernel_rfl) (fun _ _ _ h => h) (Or.inl ⟨by rfl, (fun w hSw => by (try dsimp only at hSw); go_simp)⟩) (by assumption) ?_
    try simp only [Act.put, List.setIfInBounds_toArray, List.set_cons_zero, List.set_cons_succ]
    refine wpAnyH_ready (rs := [14]) (by kernel_rfl) (by simp) ?_
    refine AllReadyH.cons (o := { dst := some 21, op := Go.Op.call { callee := Go.Callee.value (Go.Operand.func 17), args := #[Go.Operand.tmp 13, Go.Operand.tmp 20], argTypes := #[27, 27] }, type := 4, pos := "manual.go:150", after := #[{ on := 6, ground := Go.Ground.data }, { on := 13, ground := Go.Ground.data }], guard := none }) rfl (fun K hK => ?_) AllReadyH.nil
    go_simp
    refine (HEQ.out _).mono ?_
    rintro e w' ⟨rfl, hw'⟩
    go_wp2_with fail
    refine hK.out _ _ (by obtain ⟨h1, h2, h3, h4, h5, h6, h7, h8⟩ := hHeld; exact ⟨(hw'.cell hg).trans h1, (hw'.cell hg).trans h2, (hw'.cell hA).trans h3, (hw'.cell hA).trans h4, (hw'.cell hA).trans h5, (hw'.cell hB).trans h6, (hw'.cell hB).trans h7, (hw'.cell hB).trans h8⟩) (fun hHeld => ?_)
    clear hK K
    try simp only [Act.put, List.setIfInBounds_toArray, List.set_cons_zero, List.set_cons_succ]
    refine wpAnyH_done (by kernel_rfl) ?_ _
    go_wp2_with fail
    go_meet
    case rel => exact ⟨rfl, (Below.refl _ _).drew.trans hw'⟩
  case rest =>
    obtain ⟨rfl, hB1⟩ := hcut
    have c1 := (hB1.cell hg).trans ci
    have c2 := (hB1.cell hg).trans cj
    have c3 := (hB1.cell hA).trans a1
    have c4 := (hB1.cell hA).trans a2
    have c5 := (hB1.cell hA).trans a3
    have c6 := (hB1.cell hA).trans a4
    have d3 := (hB1.cell hB).trans b1
    have d4 := (hB1.cell hB).trans b2
    have d5 := (hB1.cell hB).trans b3
    have d6 := (hB1.cell hB).trans b4
    have hsz := hB1.size
    have HB1 : Hid (Below w.heap.size w wc) := hB1
    clear hB1 ci cj a1 a2 a3 a4 b1 b2 b3 b4 HEQ
    by_cases hd : da = db
    · have hb : (da == db) = true := by simp [hd]
      rw [hb]
      go_upto_region 2 with fail
      go_quiet (fail)
      go_wp2_with fail
      go_ret
      refine ⟨by simp [hd], HB1.out.trans ⟨rfl, rfl, rfl, Nat.le_refl _, fun _ _ => rfl⟩⟩
    · have hb : (da == db) = false := by simp [hd]
      rw [hb]
      go_upto_region 3 with fail
      refine wp_region_held_drew (S := (fun w' => w'.cell? ⟨g, i, none⟩ = some (.pointer (some ⟨A, 0, none⟩)) ∧ w'.cell? ⟨g, j, none⟩ = some (.pointer (some ⟨B, 0, none⟩)) ∧ w'.cell? ⟨A, 1, none⟩ = some (.int .u64 da) ∧ w'.cell? ⟨A, 2, none⟩ = some (.int .i64 0) ∧ w'.cell? ⟨A, 3, none⟩ = some (.pointer none) ∧ w'.cell? ⟨B, 1, none⟩ = some (.int .u64 db) ∧ w'.cell? ⟨B, 2, none⟩ = some (.int .i64 0) ∧ w'.cell? ⟨B, 3, none⟩ = some (.pointer none))) (by kernel_rfl) (by go_keep) (fun hHeld => ?_)
      refine wpAnyH_take (i := 0) (oi := { dst := some 37, op := Go.Op.move (Go.Operand.tmp 0), type := 81, pos := "manual.go:153", after := #[], guard := none }) (v := .slice (some ⟨g, 0, none⟩) n cap) rfl (by kernel_rfl) (by kernel_rfl) (by kernel_rfl) (fun _ _ _ h => h) (Or.inl ⟨by rfl, (fun w hSw => by (try dsimp only at hSw); go_simp)⟩) (by assumption) ?_
      try simp only [Act.put, List.setIfInBounds_toArray, List.set_cons_zero, List.set_cons_succ]
      refine wpAnyH_take (i := 1) (oi := { dst := some 38, op := Go.Op.move (Go.Operand.tmp 1), type := 3, pos := "manual.go:153", after := #[], guard := none }) (v := .int .i64 (i : Int)) rfl (by kernel_rfl) (by kernel_rfl) (by kernel_rfl) (fun _ _ _ h => h) (Or.inl ⟨by rfl, (fun w hSw => by (try dsimp only at hSw); go_simp)⟩) (by assumption) ?_
      try simp only [Act.put, List.setIfInBounds_toArray, List.set_cons_zero, List.set_cons_succ]
      refine wpAnyH_take (i := 2) (oi := { dst := some 39, op := Go.Op.indexAddr 81 (Go.Operand.tmp 37) (Go.Operand.tmp 38), type := 0, pos := "manual.go:153", after := #[{ on := 0, ground := Go.Ground.data }, { on := 1, ground := Go.Ground.data }], guard := none }) (v := .pointer (some ⟨g, i, none⟩)) rfl (by kernel_rfl) (by kernel_rfl) (by kernel_rfl) (fun _ _ _ h => h) (Or.inl ⟨by rfl, (fun w hSw => by (try dsimp only at hSw); go_simp)⟩) (by assumption) ?_
      try simp only [Act.put, List.setIfInBounds_toArray, List.set_cons_zero, List.set_cons_succ]
      refine wpAnyH_take (i := 3) (oi := { dst := some 40, op := Go.Op.load 93 (Go.Operand.tmp 39), type := 93, pos := "manual.go:153", after := #[{ on := 2, ground := Go.Ground.data }], guard := none }) (v := .pointer (some ⟨A, 0, none⟩)) rfl (by kernel_rfl) (by kernel_rfl) (by kernel_rfl) (fun _ _ _ h => h) (Or.inl ⟨by rfl, (fun w hSw => by (try dsimp only at hSw); go_simp)⟩) (by assumption) ?_
      try simp only [Act.put, List.setIfInBounds_toArray, List.set_cons_zero, List.set_cons_succ]
      refine wpAnyH_take (i := 4) (oi := { dst := some 41, op := Go.Op.nilCheck (Go.Operand.tmp 40), type := 0, pos := "manual.go:153", after := #[{ on := 3, ground := Go.Ground.data }], guard := none }) (v := .pointer (some ⟨A, 0, none⟩)) rfl (by kernel_rfl) (by kernel_rfl) (by kernel_rfl) (fun _ _ _ h => h) (Or.inl ⟨by rfl, (fun w hSw => by (try dsimp only at hSw); go_simp)⟩) (by assumption) ?_
      try simp only [Act.put, List.setIfInBounds_toArray, List.set_cons_zero, List.set_cons_succ]
      refine wpAnyH_take (i := 5) (oi := { dst := some 42, op := Go.Op.fieldAddr 95 (Go.Operand.tmp 41) 1, type := 0, pos := "manual.go:153", after := #[{ on := 4, ground := Go.Ground.data }], guard := none }) (v := .pointer (some ⟨A, 1, none⟩)) rfl (by kernel_rfl) (by kernel_rfl) (by kernel_rfl) (fun _ _ _ h => h) (Or.inl ⟨by rfl, (fun w hSw => by (try dsimp only at hSw); go_simp)⟩) (by assumption) ?_
      try simp only [Act.put, List.setIfInBounds_toArray, List.set_cons_zero, List.set_cons_succ]
      refine wpAnyH_take (i := 6) (oi := { dst := some 43, op := Go.Op.load 27 (Go.Operand.tmp 42), type := 27, pos := "manual.go:153", after := #[{ on := 5, ground := Go.Ground.data }], guard := none }) (v := .agg #[.int .u64 da, .int .i64 0, .pointer none]) rfl (by kernel_rfl) (by kernel_rfl) (by kernel_rfl) (fun _ _ _ h => h) (Or.inl ⟨by rfl, (fun w hSw => by (try dsimp only at hSw); go_simp)⟩) (by assumption) ?_
      try simp only [Act.put, List.setIfInBounds_toArray, List.set_cons_zero, List.set_cons_succ]
      refine wpAnyH_take (i := 7) (oi := { dst := some 44, op := Go.Op.move (Go.Operand.tmp 0), type := 81, pos := "manual.go:153", after := #[], guard := none }) (v := .slice (some ⟨g, 0, none⟩) n cap) rfl (by kernel_rfl) (by kernel_rfl) (by kernel_rfl) (fun _ _ _ h => h) (Or.inl ⟨by rfl, (fun w hSw => by (try dsimp only at hSw); go_simp)⟩) (by assumption) ?_
      try simp only [Act.put, List.setIfInBounds_toArray, List.set_cons_zero, List.set_cons_succ]
      refine wpAnyH_take (i := 8) (oi := { dst := some 45, op := Go.Op.move (Go.Operand.tmp 2), type := 3, pos := "manual.go:153", after := #[], guard := none }) (v := .int .i64 (j : Int)) rfl (by kernel_rfl) (by kernel_rfl) (by kernel_rfl) (fun _ _ _ h => h) (Or.inl ⟨by rfl, (fun w hSw => by (try dsimp only at hSw); go_simp)⟩) (by assumption) ?_
      try simp only [Act.put, List.setIfInBounds_toArray, List.set_cons_zero, List.set_cons_succ]
      refine wpAnyH_take (i := 9) (oi := { dst := some 46, op := Go.Op.indexAddr 81 (Go.Operand.tmp 44) (Go.Operand.tmp 45), type := 0, pos := "manual.go:153", after := #[{ on := 7, ground := Go.Ground.data }, { on := 8, ground := Go.Ground.data }], guard := none }) (v := .pointer (some ⟨g, j, none⟩)) rfl (by kernel_rfl) (by kernel_rfl) (by kernel_rfl) (fun _ _ _ h => h) (Or.inl ⟨by rfl, (fun w hSw => by (try dsimp only at hSw); go_simp)⟩) (by assumption) ?_
      try simp only [Act.put, List.setIfInBounds_toArray, List.set_cons_zero, List.set_cons_succ]
      refine wpAnyH_take (i := 10) (oi := { dst := some 47, op := Go.Op.load 93 (Go.Operand.tmp 46), type := 93, pos := "manual.go:153", after := #[{ on := 9, ground := Go.Ground.data }], guard := none }) (v := .pointer (some ⟨B, 0, none⟩)) rfl (by kernel_rfl) (by kernel_rfl) (by kernel_rfl) (fun _ _ _ h => h) (Or.inl ⟨by rfl, (fun w hSw => by (try dsimp only at hSw); go_simp)⟩) (by assumption) ?_
      try simp only [Act.put, List.setIfInBounds_toArray, List.set_cons_zero, List.set_cons_succ]
      refine wpAnyH_take (i := 11) (oi := { dst := some 48, op := Go.Op.nilCheck (Go.Operand.tmp 47), type := 0, pos := "manual.go:153", after := #[{ on := 10, ground := Go.Ground.data }], guard := none }) (v := .pointer (some ⟨B, 0, none⟩)) rfl (by kernel_rfl) (by kernel_rfl) (by kernel_rfl) (fun _ _ _ h => h) (Or.inl ⟨by rfl, (fun w hSw => by (try dsimp only at hSw); go_simp)⟩) (by assumption) ?_
      try simp only [Act.put, List.setIfInBounds_toArray, List.set_cons_zero, List.set_cons_succ]
      refine wpAnyH_take (i := 12) (oi := { dst := some 49, op := Go.Op.fieldAddr 95 (Go.Operand.tmp 48) 1, type := 0, pos := "manual.go:153", after := #[{ on := 11, ground := Go.Ground.data }], guard := none }) (v := .pointer (some ⟨B, 1, none⟩)) rfl (by kernel_rfl) (by kernel_rfl) (by kernel_rfl) (fun _ _ _ h => h) (Or.inl ⟨by rfl, (fun w hSw => by (try dsimp only at hSw); go_simp)⟩) (by assumption) ?_
      try simp only [Act.put, List.setIfInBounds_toArray, List.set_cons_zero, List.set_cons_succ]
      refine wpAnyH_take (i := 13) (oi := { dst := some 50, op := Go.Op.load 27 (Go.Operand.tmp 49), type := 27, pos := "manual.go:153", after := #[{ on := 12, ground := Go.Ground.data }], guard := none }) (v := .agg #[.int .u64 db, .int .i64 0, .pointer none]) rfl (by kernel_rfl) (by kernel_rfl) (by kernel_rfl) (fun _ _ _ h => h) (Or.inl ⟨by rfl, (fun w hSw => by (try dsimp only at hSw); go_simp)⟩) (by assumption) ?_
      try simp only [Act.put, List.setIfInBounds_toArray, List.set_cons_zero, List.set_cons_succ]
      refine wpAnyH_ready (rs := [14]) (by kernel_rfl) (by simp) ?_
      refine AllReadyH.cons (o := { dst := some 51, op := Go.Op.call { callee := Go.Callee.value (Go.Operand.func 25), args := #[Go.Operand.tmp 43, Go.Operand.tmp 50], argTypes := #[27, 27] }, type := 4, pos := "manual.go:153", after := #[{ on := 6, ground := Go.Ground.data }, { on := 13, ground := Go.Ground.data }], guard := none }) rfl (fun K hK => ?_) AllReadyH.nil
      go_simp
      refine (HBF.out _).mono ?_
      rintro e w' ⟨rfl, hw'⟩
      go_wp2_with fail
      have hw2 : Below w.heap.size wc.drew w' := hw'.mono hsz
      refine hK.out _ _ (by obtain ⟨h1, h2, h3, h4, h5, h6, h7, h8⟩ := hHeld; exact ⟨(hw2.cell hg).trans h1, (hw2.cell hg).trans h2, (hw2.cell hA).trans h3, (hw2.cell hA).trans h4, (hw2.cell hA).trans h5, (hw2.cell hB).trans h6, (hw2.cell hB).trans h7, (hw2.cell hB).trans h8⟩) (fun hHeld => ?_)
      clear hK K
      try simp only [Act.put, List.setIfInBounds_toArray, List.set_cons_zero, List.set_cons_succ]
      refine wpAnyH_take (i := 15) (oi := { dst := some 6, op := Go.Op.assign (Go.Operand.tmp 51), type := 4, pos := "manual.go:153", after := #[{ on := 14, ground := Go.Ground.data }, { on := 14, ground := Go.Ground.chain }, { on := 0, ground := Go.Ground.phase }, { on := 1, ground := Go.Ground.phase }, { on := 2, ground := Go.Ground.phase }, { on := 3, ground := Go.Ground.phase }, { on := 4, ground := Go.Ground.phase }, { on := 5, ground := Go.Ground.phase }, { on := 6, ground := Go.Ground.phase }, { on := 7, ground := Go.Ground.phase }, { on := 8, ground := Go.Ground.phase }, { on := 9, ground := Go.Ground.phase }, { on := 10, ground := Go.Ground.phase }, { on := 11, ground := Go.Ground.phase }, { on := 12, ground := Go.Ground.phase }, { on := 13, ground := Go.Ground.phase }, { on := 14, ground := Go.Ground.phase }], guard := none }) (v := .bool (decide (da < db))) rfl (by kernel_rfl) (by kernel_rfl) (by kernel_rfl) (fun _ _ _ h => h) (Or.inl ⟨by rfl, (fun w hSw => by (try dsimp only at hSw); go_simp)⟩) (by assumption) ?_
      try simp only [Act.put, List.setIfInBounds_toArray, List.set_cons_zero, List.set_cons_succ]
      refine wpAnyH_done (by kernel_rfl) ?_ _
      go_wp2_with fail
      go_ret
      refine ⟨by simp [hd], HB1.out.drew.trans hw2⟩
end Go.Proofs.Ybulkdask.Hp
