import Derived.Test.YbulkdaskArmB
import Derived.Test.YbulkdaskTimeSub
import Derived.Test.YbulkdaskTick
import Derived.Deep.RegionHeld3
namespace Go.Proofs.Ybulkdask.Clk
open Go.RowKit Go.Proofs.Ybulkdask.Tm Go.Proofs.Ybulkdask.Tk
set_option linter.unusedSimpArgs false

/-- What the job's block holds. -/
def job (C S T : Nat) (on os : Int) (p : Nat) : Array Value :=
  #[.iface 44 (.pointer (some ⟨C, 0, none⟩)), .int .u64 on, .int .i64 os, .pointer none, .int .i64 p, .func (.func 13) #[] #[.pointer (some ⟨S, 0, none⟩)], .pointer (some ⟨T, 0, none⟩)]

set_option maxHeartbeats 1600000 in
set_option maxRecDepth 100000 in
/-- '(*Job).schedule', over Arm's contract. -/
theorem sched (J C S T : Nat) (n s on os : Int) (p t : Nat) (Q : World → Prop) (w : World) (h0 : 0 ≤ n) (h1 : n < 1000000000) (k0 : 0 ≤ on) (k1 : on < 1000000000) (b0 : -1000000000 < os) (b1 : os < 1000000000)
    (ht : (s - os) * 1000000000 + (n - on) = (t : Int)) (ht1 : t < 1099511627776) (hp : 0 < p) (hp1 : p ≤ 1099511627776)
    (hJ : Bk w J (job C S T on os p) 58)
    (harm : ∀ w', Below w.heap.size w w' → Calls Yba.prog 16 #[.pointer (some ⟨T, 0, none⟩), .int .i64 (((t / p + 1) * p - t : Nat) : Int)] w' fun e w'' => e = .returned (.tuple #[]) ∧ Q w'' ∧ Bk w'' J (job C S T on os p) 58) :
    Calls Yba.prog 29 #[.pointer (some ⟨J, 0, none⟩), .agg #[.int .u64 n, .int .i64 s, .pointer none]] w fun e w'' => e = .returned (.tuple #[]) ∧ Q w'' := by
  have HSUB : Hid (∀ w, Calls Yba.prog 10 #[.agg #[.int .u64 n, .int .i64 s, .pointer none], .agg #[.int .u64 on, .int .i64 os, .pointer none]] w fun e w' => e = .returned (.int .i64 (t : Int)) ∧ Below w.heap.size w w') := by
    show ∀ w, _
    intro w
    have := sub_any n s on os w h0 h1 k0 k1 b0 b1 (by omega) (by omega)
    rw [ht] at this
    exact this
  have hq1 : t / p ≤ t := Nat.div_le_self t p
  have hq2 : t / p * p ≤ t := Nat.div_mul_le_self t p
  have hq4 : t < (t / p + 1) * p := by rw [Nat.mul_comm]; exact Nat.lt_mul_div_succ t hp
  have hq3 : (t / p + 1) * p ≤ 2199023255552 := by rw [Nat.succ_mul]; omega
  obtain ⟨q, hq⟩ : ∃ q, q = t / p := ⟨_, rfl⟩
  have HTK : Hid (∀ w, Calls Yba.prog 40 #[.int .i64 p, .int .i64 t] w fun e w' => e = .returned (.int .i64 (q : Int)) ∧ w' = w) := by
    show ∀ w, _
    intro w
    rw [hq]
    exact tickAt p t hp (by omega) w
  obtain ⟨m, hm⟩ : ∃ m, m = (q + 1) * p := ⟨_, rfl⟩
  have HTM : Hid (∀ w, Calls Yba.prog 39 #[.int .i64 p, .int .i64 ((q + 1 : Nat) : Int)] w fun e w' => e = .returned (.int .i64 (m : Int)) ∧ w' = w) := by
    show ∀ w, _
    intro w
    rw [hm]
    exact timeOf p (q + 1) (by rw [hq]; omega) (by omega) (by omega) w
  rw [← hq, ← hm] at hq3 hq4
  have HARM : Hid (∀ w', Below w.heap.size w w' → Calls Yba.prog 16 #[.pointer (some ⟨T, 0, none⟩), .int .i64 ((m - t : Nat) : Int)] w' fun e w'' => e = .returned (.tuple #[]) ∧ Q w'' ∧ Bk w'' J (job C S T on os p) 58) := by
    rw [← hq, ← hm] at harm
    exact harm
  have hqb : q ≤ 1099511627776 := by omega
  have hmt : ((m - t : Nat) : Int) = (m : Int) - (t : Int) := by omega
  rw [show ((q + 1 : Nat) : Int) = (q : Int) + 1 from rfl] at HTM
  rw [hmt] at HARM
  obtain ⟨x, hx⟩ : ∃ x : Int, x = (t : Int) := ⟨_, rfl⟩
  obtain ⟨y, hy⟩ : ∃ y : Int, y = (q : Int) := ⟨_, rfl⟩
  obtain ⟨z, hz⟩ : ∃ z : Int, z = (m : Int) := ⟨_, rfl⟩
  obtain ⟨u, hu⟩ : ∃ u : Int, u = (p : Int) := ⟨_, rfl⟩
  have x0 : 0 ≤ x := by omega
  have x1 : x < 1099511627776 := by omega
  have y0 : 0 ≤ y := by omega
  have y1 : y ≤ 1099511627776 := by omega
  have z0 : 0 ≤ z := by omega
  have z1 : z ≤ 2199023255552 := by omega
  rw [← hx] at HSUB
  rw [← hx, ← hy, ← hu] at HTK
  rw [← hy, ← hz, ← hu] at HTM
  rw [← hx, ← hz] at HARM
  have HJ : Hid (Bk w J (job C S T on os p) 58) := hJ
  have c1 : w.cell? ⟨J, 1, none⟩ = some (.int .u64 on) := hJ.cell 1 rfl
  have c2 : w.cell? ⟨J, 2, none⟩ = some (.int .i64 os) := hJ.cell 2 rfl
  have c3 : w.cell? ⟨J, 3, none⟩ = some (.pointer none) := hJ.cell 3 rfl
  have hlt := hJ.lt
  have c4 : w.cell? ⟨J, 4, none⟩ = some (.int .i64 u) := by rw [hu]; exact hJ.cell 4 rfl
  have c6 : w.cell? ⟨J, 6, none⟩ = some (.pointer (some ⟨T, 0, none⟩)) := hJ.cell 6 rfl
  have HCU : Hid ((p : Int) = u) := hu.symm
  clear harm hJ hq hm hq1 hq2 ht hqb hmt hx hy hz hu hq3 hq4 ht1 hp hp1
  go_enter Yba.func29, Yba.ntmps29
  go_upto_region 1 with fail
  go_cut [4] (fun v wc => v = .int .i64 x ∧ Below w.heap.size w wc)
  case first =>
    go_region_with (go_at_call 10; refine (HSUB.out _).mono ?_; rintro e w' ⟨rfl, hB⟩)
    all_goals (go_wp2_with fail; go_meet)
    all_goals (case rel => exact ⟨rfl, Gr.bel (by repeat (first | exact Gr.refl _ | apply Gr.drew | apply Gr.alloc | refine Gr.step ?_ (by assumption)))⟩)
  case rest =>
    obtain ⟨rfl, hB⟩ := hcut
    have d4 : wc.cell? ⟨J, 4, none⟩ = some (.int .i64 u) := (hB.cell hlt).trans c4
    have d6 : wc.cell? ⟨J, 6, none⟩ = some (.pointer (some ⟨T, 0, none⟩)) := (hB.cell hlt).trans c6
    have HB : Hid (Below w.heap.size w wc) := hB
    clear hB c1 c2 c3 c4 c6 HSUB HJ
    go_upto_region 2 with fail
    refine wp_region_held_drew (S := (fun w' => w'.cell? ⟨J, 4, none⟩ = some (.int .i64 u) ∧ w'.cell? ⟨J, 6, none⟩ = some (.pointer (some ⟨T, 0, none⟩)))) (by kernel_rfl) (by go_keep) (fun hHeld => ?_)
    refine wpAnyH_take (i := 0) (v := .pointer (some ⟨J, 0, none⟩)) rfl (by kernel_rfl) (by kernel_rfl) (by kernel_rfl) (fun _ _ _ h => h) (Or.inl ⟨by rfl, (fun w hSw => by (try dsimp only at hSw); go_simp)⟩) (by assumption) ?_
    try simp only [Act.put, List.setIfInBounds_toArray, List.set_cons_zero, List.set_cons_succ]
    refine wpAnyH_take (i := 1) (v := .pointer (some ⟨J, 0, none⟩)) rfl (by kernel_rfl) (by kernel_rfl) (by kernel_rfl) (fun _ _ _ h => h) (Or.inl ⟨by rfl, (fun w hSw => by (try dsimp only at hSw); go_simp)⟩) (by assumption) ?_
    try simp only [Act.put, List.setIfInBounds_toArray, List.set_cons_zero, List.set_cons_succ]
    refine wpAnyH_take (i := 2) (v := .pointer (some ⟨J, 6, none⟩)) rfl (by kernel_rfl) (by kernel_rfl) (by kernel_rfl) (fun _ _ _ h => h) (Or.inl ⟨by rfl, (fun w hSw => by (try dsimp only at hSw); go_simp)⟩) (by assumption) ?_
    try simp only [Act.put, List.setIfInBounds_toArray, List.set_cons_zero, List.set_cons_succ]
    refine wpAnyH_take (i := 3) (v := .pointer (some ⟨T, 0, none⟩)) rfl (by kernel_rfl) (by kernel_rfl) (by kernel_rfl) (fun _ _ _ h => h) (Or.inl ⟨by rfl, (fun w hSw => by (try dsimp only at hSw); go_simp)⟩) (by assumption) ?_
    try simp only [Act.put, List.setIfInBounds_toArray, List.set_cons_zero, List.set_cons_succ]
    refine wpAnyH_take (i := 4) (v := .pointer (some ⟨J, 0, none⟩)) rfl (by kernel_rfl) (by kernel_rfl) (by kernel_rfl) (fun _ _ _ h => h) (Or.inl ⟨by rfl, (fun w hSw => by (try dsimp only at hSw); go_simp)⟩) (by assumption) ?_
    try simp only [Act.put, List.setIfInBounds_toArray, List.set_cons_zero, List.set_cons_succ]
    refine wpAnyH_take (i := 5) (v := .pointer (some ⟨J, 0, none⟩)) rfl (by kernel_rfl) (by kernel_rfl) (by kernel_rfl) (fun _ _ _ h => h) (Or.inl ⟨by rfl, (fun w hSw => by (try dsimp only at hSw); go_simp)⟩) (by assumption) ?_
    try simp only [Act.put, List.setIfInBounds_toArray, List.set_cons_zero, List.set_cons_succ]
    refine wpAnyH_take (i := 6) (v := .pointer (some ⟨J, 4, none⟩)) rfl (by kernel_rfl) (by kernel_rfl) (by kernel_rfl) (fun _ _ _ h => h) (Or.inl ⟨by rfl, (fun w hSw => by (try dsimp only at hSw); go_simp)⟩) (by assumption) ?_
    try simp only [Act.put, List.setIfInBounds_toArray, List.set_cons_zero, List.set_cons_succ]
    refine wpAnyH_take (i := 7) (v := .int .i64 u) rfl (by kernel_rfl) (by kernel_rfl) (by kernel_rfl) (fun _ _ _ h => h) (Or.inl ⟨by rfl, (fun w hSw => by (try dsimp only at hSw); go_simp)⟩) (by assumption) ?_
    try simp only [Act.put, List.setIfInBounds_toArray, List.set_cons_zero, List.set_cons_succ]
    refine wpAnyH_take (i := 8) (v := .pointer (some ⟨J, 0, none⟩)) rfl (by kernel_rfl) (by kernel_rfl) (by kernel_rfl) (fun _ _ _ h => h) (Or.inl ⟨by rfl, (fun w hSw => by (try dsimp only at hSw); go_simp)⟩) (by assumption) ?_
    try simp only [Act.put, List.setIfInBounds_toArray, List.set_cons_zero, List.set_cons_succ]
    refine wpAnyH_take (i := 9) (v := .pointer (some ⟨J, 0, none⟩)) rfl (by kernel_rfl) (by kernel_rfl) (by kernel_rfl) (fun _ _ _ h => h) (Or.inl ⟨by rfl, (fun w hSw => by (try dsimp only at hSw); go_simp)⟩) (by assumption) ?_
    try simp only [Act.put, List.setIfInBounds_toArray, List.set_cons_zero, List.set_cons_succ]
    refine wpAnyH_take (i := 10) (v := .pointer (some ⟨J, 4, none⟩)) rfl (by kernel_rfl) (by kernel_rfl) (by kernel_rfl) (fun _ _ _ h => h) (Or.inl ⟨by rfl, (fun w hSw => by (try dsimp only at hSw); go_simp)⟩) (by assumption) ?_
    try simp only [Act.put, List.setIfInBounds_toArray, List.set_cons_zero, List.set_cons_succ]
    refine wpAnyH_take (i := 11) (v := .int .i64 u) rfl (by kernel_rfl) (by kernel_rfl) (by kernel_rfl) (fun _ _ _ h => h) (Or.inl ⟨by rfl, (fun w hSw => by (try dsimp only at hSw); go_simp)⟩) (by assumption) ?_
    try simp only [Act.put, List.setIfInBounds_toArray, List.set_cons_zero, List.set_cons_succ]
    refine wpAnyH_take (i := 12) (v := .int .i64 x) rfl (by kernel_rfl) (by kernel_rfl) (by kernel_rfl) (fun _ _ _ h => h) (Or.inl ⟨by rfl, (fun w hSw => by (try dsimp only at hSw); go_simp)⟩) (by assumption) ?_
    try simp only [Act.put, List.setIfInBounds_toArray, List.set_cons_zero, List.set_cons_succ]
    refine wpAnyH_take (i := 16) (v := .int .i64 x) rfl (by kernel_rfl) (by kernel_rfl) (by kernel_rfl) (fun _ _ _ h => h) (Or.inl ⟨by rfl, (fun w hSw => by (try dsimp only at hSw); go_simp)⟩) (by assumption) ?_
    try simp only [Act.put, List.setIfInBounds_toArray, List.set_cons_zero, List.set_cons_succ]
    refine wpAnyH_ready (rs := [13]) (by kernel_rfl) (by simp) ?_
    refine AllReadyH.cons rfl (fun K hK => ?_) AllReadyH.nil
    go_simp
    refine (HTK.out _).mono ?_
    rintro e w' ⟨rfl, hw'⟩
    rw [hw']
    clear hw'
    go_wp2_with fail
    refine hK.out _ _ hHeld (fun hHeld => ?_)
    clear hK K
    try simp only [Act.put, List.setIfInBounds_toArray, List.set_cons_zero, List.set_cons_succ]
    refine wpAnyH_take (i := 14) (v := .int .i64 (y + 1)) rfl (by kernel_rfl) (by kernel_rfl) (by kernel_rfl) (fun _ _ _ h => h) (Or.inl ⟨by rfl, (fun w hSw => by (try dsimp only at hSw); go_simp; rw [IntKind.wrap_i64]; omega)⟩) (by assumption) ?_
    try simp only [Act.put, List.setIfInBounds_toArray, List.set_cons_zero, List.set_cons_succ]
    refine wpAnyH_ready (rs := [15]) (by kernel_rfl) (by simp) ?_
    refine AllReadyH.cons rfl (fun K hK => ?_) AllReadyH.nil
    go_simp
    refine (HTM.out _).mono ?_
    rintro e w' ⟨rfl, hw'⟩
    rw [hw']
    clear hw'
    go_wp2_with fail
    refine hK.out _ _ hHeld (fun hHeld => ?_)
    clear hK K
    try simp only [Act.put, List.setIfInBounds_toArray, List.set_cons_zero, List.set_cons_succ]
    refine wpAnyH_take (i := 17) (v := .int .i64 (z - x)) rfl (by kernel_rfl) (by kernel_rfl) (by kernel_rfl) (fun _ _ _ h => h) (Or.inl ⟨by rfl, (fun w hSw => by (try dsimp only at hSw); go_simp; rw [IntKind.wrap_i64]; omega)⟩) (by assumption) ?_
    try simp only [Act.put, List.setIfInBounds_toArray, List.set_cons_zero, List.set_cons_succ]
    refine wpAnyH_ready (rs := [18]) (by kernel_rfl) (by simp) ?_
    refine AllReadyH.cons rfl (fun K hK => ?_) AllReadyH.nil
    go_simp
    refine (HARM.out _ HB.out.drew).mono ?_
    rintro e w' ⟨rfl, hQ, hbk⟩
    go_wp2_with fail
    refine hK.out _ _ ⟨by rw [← HCU.out]; exact hbk.cell 4 rfl, hbk.cell 6 rfl⟩ (fun hHeld => ?_)
    clear hK K
    try simp only [Act.put, List.setIfInBounds_toArray, List.set_cons_zero, List.set_cons_succ]
    refine wpAnyH_done (by kernel_rfl) ?_ _
    go_wp2_with fail
    refine bodyPost_end (results_none rfl _ _ _) rfl ⟨rfl, hQ⟩
#print axioms sched
end Go.Proofs.Ybulkdask.Clk
