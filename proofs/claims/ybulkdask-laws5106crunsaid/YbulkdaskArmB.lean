import Derived.Test.YbulkdaskArm
namespace Go.Proofs.Ybulkdask.Clk
open Go.RowKit Go.Proofs.Ybulkdask.Wg Go.Proofs.Ybulkdask.Lk

/-- The method value 't.run'. -/
def runFn (T : Nat) : Value := .func (.func 32) #[.pointer (some ⟨T, 0, none⟩)] #[]

set_option maxHeartbeats 800000 in
set_option maxRecDepth 100000 in
/-- '(*Timer).Arm' behind what cancel and the group's Add do. -/
theorem arm_core (B T C J : Nat) (n s nows : Int) (ds fs ss tv : Value) (ans : Bool) (dl fl sl : List Value) (k : Nat) (x x' d : Int) (w w2 : World) (hk : k ≤ 1) (hB : B ≤ T) (hBC : B ≤ C) (hBw : B ≤ w2.heap.size)
    (hT : Bk w T (tmr C J 0 tv x false) 74)
    (hcan : Calls Yba.prog 30 #[.pointer (some ⟨T, 0, none⟩)] (w.setCell ⟨T, 2, none⟩ (.int .i32 1)) fun e w' => e = .returned (.tuple #[]) ∧ w' = w2)
    (hadd : Calls Yba.prog 31 #[.pointer (some ⟨T, 5, none⟩), .int .i64 1] w2 fun e w' => e = .returned (.tuple #[]) ∧ w' = w2.setCell ⟨T, 5, none⟩ (.int .u64 x'))
    (y : Int) (hT2 : Bk w2 T (tmr C J 1 tv y false) 74)
    (hC : Bk w2 C #[.int .u64 n, .int .i64 s, .pointer none, .int .i64 nows, ds, fs, ss, .bool ans] 49) (h1 : w2.ownsRow B 34 1 ds k dl) (h2 : w2.ownsRow B 1 1 fs k fl) (h3 : w2.ownsRow B 78 1 ss k sl) :
    Calls Yba.prog 16 #[.pointer (some ⟨T, 0, none⟩), .int .i64 d] w fun e w' => e = .returned (.tuple #[]) ∧ ∃ D, w2.heap.size ≤ D ∧ Bk w' D #[.bool ans, .int .i64 0] 77 ∧ Bk w' T (tmr C J 0 (.iface 78 (.pointer (some ⟨D, 0, none⟩))) x' false) 74 ∧ ClkAt w' B C n s nows ans (dl ++ [.int .i64 d]) (fl ++ [runFn T]) (sl ++ [.pointer (some ⟨D, 0, none⟩)]) (k + 1) ∧ Fr B [74, 49, 34, 1, 78] w2 w' := by
  have e7 : (w.setCell ⟨T, 2, none⟩ (.int .i32 1)).cell? ⟨T, 7, none⟩ = some (.bool false) := (hT.set 2 _).cell 7 rfl
  have e7' : w.cell? ⟨T, 7, none⟩ = some (.bool false) := hT.cell 7 rfl
  have HL : Hid (Calls Yba.prog 18 #[.pointer (some ⟨T, 2, none⟩)] w fun e w' => e = .returned (.tuple #[]) ∧ w' = w.setCell ⟨T, 2, none⟩ (.int .i32 1)) := lock _ _ (hT.cell 2 rfl) (hT.free 2)
  have HCN : Hid (Calls Yba.prog 30 #[.pointer (some ⟨T, 0, none⟩)] (w.setCell ⟨T, 2, none⟩ (.int .i32 1)) fun e w' => e = .returned (.tuple #[]) ∧ w' = w2) := hcan
  have HAD : Hid (Calls Yba.prog 31 #[.pointer (some ⟨T, 5, none⟩), .int .i64 1] w2 fun e w' => e = .returned (.tuple #[]) ∧ w' = w2.setCell ⟨T, 5, none⟩ (.int .u64 x')) := hadd
  have hT3 : Bk (w2.setCell ⟨T, 5, none⟩ (.int .u64 x')) T (tmr C J 1 tv x' false) 74 := hT2.set 5 _
  have b0 : (w2.setCell ⟨T, 5, none⟩ (.int .u64 x')).cell? ⟨T, 0, none⟩ = some (.iface 44 (.pointer (some ⟨C, 0, none⟩))) := hT3.cell 0 rfl
  have b0' : w2.cell? ⟨T, 0, none⟩ = some (.iface 44 (.pointer (some ⟨C, 0, none⟩))) := hT2.cell 0 rfl
  have HT3 : Hid (Bk (w2.setCell ⟨T, 5, none⟩ (.int .u64 x')) T (tmr C J 1 tv x' false) 74) := hT3
  have HF3 : Hid (Fr B [74, 49, 34, 1, 78] w2 (w2.setCell ⟨T, 5, none⟩ (.int .u64 x'))) := (Fr.refl _ _ _).set hT2 hB (by decide) _
  have HAF : Hid (Calls Yba.prog 97 #[.pointer (some ⟨C, 0, none⟩), .int .i64 d, runFn T] (w2.setCell ⟨T, 5, none⟩ (.int .u64 x')) fun e w' => ∃ D, e = .returned (.iface 78 (.pointer (some ⟨D, 0, none⟩))) ∧ (w2.setCell ⟨T, 5, none⟩ (.int .u64 x')).heap.size ≤ D ∧ Bk w' D #[.bool ans, .int .i64 0] 77 ∧ ClkAt w' B C n s nows ans (dl ++ [.int .i64 d]) (fl ++ [runFn T]) (sl ++ [.pointer (some ⟨D, 0, none⟩)]) (k + 1) ∧ Fr B [49, 34, 1, 78] (w2.setCell ⟨T, 5, none⟩ (.int .u64 x')) w') :=
    afterFunc B C n s nows ds fs ss ans dl fl sl k d _ _ _ _ hk hBC (by simpa using hBw) (hC.put (Bk.ne hC hT2 (by decide))) (own_set h1 hT2 (by decide) _ _) (own_set h2 hT2 (by decide) _ _) (own_set h3 hT2 (by decide) _ _)
  clear hT hcan hadd hT2 hC h1 h2 h3 hT3
  have hm := meth_after ⟨C, 0, none⟩
  go_enter_defers Yba.func16, Yba.ntmps16
  go_wp2_with fail
  refine HL.out.mono ?_
  rintro e w' ⟨rfl, rfl⟩
  go_wp2_with fail
  refine HCN.out.mono ?_
  rintro e w' ⟨rfl, hw'⟩
  rw [hw']
  clear hw'
  go_wp2_with fail
  refine HAD.out.mono ?_
  rintro e w'' ⟨rfl, rfl⟩
  go_wp2_with fail
  refine HAF.out.mono ?_
  rintro e w4 ⟨D, rfl, hD, hbD, hclk, hfr⟩
  have hT4 : Bk w4 T (tmr C J 1 tv x' false) 74 := HT3.out.fr hfr (by decide)
  have a4 : w4.cell? ⟨T, 4, none⟩ = some tv := hT4.cell 4 rfl
  have q4 := hT4.free 4
  have hT5 : Bk (w4.setCell ⟨T, 4, none⟩ (.iface 78 (.pointer (some ⟨D, 0, none⟩)))) T (tmr C J 1 (.iface 78 (.pointer (some ⟨D, 0, none⟩))) x' false) 74 := hT4.set 4 _
  have HU : Hid (CallsD Yba.prog 19 #[.pointer (some ⟨T, 2, none⟩)] .returning (w4.setCell ⟨T, 4, none⟩ (.iface 78 (.pointer (some ⟨D, 0, none⟩)))) fun e u' w' => u' = .returning ∧ (e = .returned (.tuple #[]) ∧ w' = (w4.setCell ⟨T, 4, none⟩ (.iface 78 (.pointer (some ⟨D, 0, none⟩)))).setCell ⟨T, 2, none⟩ (.int .i32 0))) := unlockD _ _ _ (hT5.cell 2 rfl) (hT5.free 2)
  have HE : Hid (Bk ((w4.setCell ⟨T, 4, none⟩ (.iface 78 (.pointer (some ⟨D, 0, none⟩)))).setCell ⟨T, 2, none⟩ (.int .i32 0)) D #[.bool ans, .int .i64 0] 77 ∧
      Bk ((w4.setCell ⟨T, 4, none⟩ (.iface 78 (.pointer (some ⟨D, 0, none⟩)))).setCell ⟨T, 2, none⟩ (.int .i32 0)) T (tmr C J 0 (.iface 78 (.pointer (some ⟨D, 0, none⟩))) x' false) 74 ∧
      ClkAt ((w4.setCell ⟨T, 4, none⟩ (.iface 78 (.pointer (some ⟨D, 0, none⟩)))).setCell ⟨T, 2, none⟩ (.int .i32 0)) B C n s nows ans (dl ++ [.int .i64 d]) (fl ++ [runFn T]) (sl ++ [.pointer (some ⟨D, 0, none⟩)]) (k + 1) ∧
      Fr B [74, 49, 34, 1, 78] w2 ((w4.setCell ⟨T, 4, none⟩ (.iface 78 (.pointer (some ⟨D, 0, none⟩)))).setCell ⟨T, 2, none⟩ (.int .i32 0))) := by
    have ne := Bk.ne hbD hT4 (by decide)
    obtain ⟨ds', fs', ss', k1, k2, k3, k4⟩ := hclk.ex
    have nc := Bk.ne k1 hT4 (by decide)
    refine ⟨(hbD.put ne).put ne, hT5.set 2 _, ⟨ds', fs', ss', (k1.put nc).put nc, own_set (own_set k2 hT4 (by decide) _ _) hT5 (by decide) _ _, own_set (own_set k3 hT4 (by decide) _ _) hT5 (by decide) _ _, own_set (own_set k4 hT4 (by decide) _ _) hT5 (by decide) _ _⟩, ?_⟩
    exact (((HF3.out.trans (hfr.mono (Nat.le_refl _) (by decide)))).set hT4 hB (by decide) _).set hT5 hB (by decide) _
  have hD' : w2.heap.size ≤ D := by simpa using hD
  clear hT4 hT5 hbD hclk hfr hD HT3 HF3 HAF HAD HCN HL
  go_wp2_with fail
  refine leaves_cons (f := 19) (args := #[.pointer (some ⟨T, 2, none⟩)]) (by simp) (by simp [go_sem]) ?_
  refine HU.out.mono ?_
  rintro e u' w'' ⟨rfl, rfl, rfl⟩
  exact ⟨_, results_none rfl _ _ _, rfl, D, hD', HE.out.1, HE.out.2.1, HE.out.2.2.1, HE.out.2.2.2⟩

/-- '(*Timer).Arm', nothing scheduled. -/
theorem arm_nil (B T C J : Nat) (n s nows : Int) (ds fs ss : Value) (ans : Bool) (dl fl sl : List Value) (k : Nat) (d : Int) (w : World) (hk : k ≤ 1) (hB : B ≤ T) (hBC : B ≤ C) (hBw : B ≤ w.heap.size)
    (hT : Bk w T (tmr C J 0 .nilIface 0 false) 74)
    (hC : Bk w C #[.int .u64 n, .int .i64 s, .pointer none, .int .i64 nows, ds, fs, ss, .bool ans] 49) (h1 : w.ownsRow B 34 1 ds k dl) (h2 : w.ownsRow B 1 1 fs k fl) (h3 : w.ownsRow B 78 1 ss k sl) :
    Calls Yba.prog 16 #[.pointer (some ⟨T, 0, none⟩), .int .i64 d] w fun e w' => e = .returned (.tuple #[]) ∧ ∃ D, w.heap.size ≤ D ∧ Bk w' D #[.bool ans, .int .i64 0] 77 ∧ Bk w' T (tmr C J 0 (.iface 78 (.pointer (some ⟨D, 0, none⟩))) 4294967296 false) 74 ∧ ClkAt w' B C n s nows ans (dl ++ [.int .i64 d]) (fl ++ [runFn T]) (sl ++ [.pointer (some ⟨D, 0, none⟩)]) (k + 1) ∧ Fr B [74, 49, 34, 1, 78] w w' := by
  have hT1 : Bk (w.setCell ⟨T, 2, none⟩ (.int .i32 1)) T (tmr C J 1 .nilIface 0 false) 74 := hT.set 2 _
  refine (arm_core B T C J n s nows ds fs ss .nilIface ans dl fl sl k 0 4294967296 d w _ hk hB hBC (by simpa using hBw) hT (cancel_nil T C J 1 0 false _ hT1) (add_first T 5 _ (hT1.cell 5 rfl) (hT1.free 5) (hT1.cell 6 rfl)) 0 hT1 (hC.put (Bk.ne hC hT (by decide))) (own_set h1 hT (by decide) _ _) (own_set h2 hT (by decide) _ _) (own_set h3 hT (by decide) _ _)).mono ?_
  rintro e w' ⟨rfl, D, hD, p1, p2, p3, p4⟩
  exact ⟨rfl, D, by simpa using hD, p1, p2, p3, ((Fr.refl _ _ _).set hT hB (by decide) _).trans p4⟩

/-- '(*Timer).Arm', a call scheduled: it is stopped first. -/
theorem arm_again (B T C J D0 : Nat) (n s nows : Int) (ds fs ss : Value) (ans : Bool) (dl fl sl : List Value) (k : Nat) (d : Int) (w : World) (hk : k ≤ 1) (hB : B ≤ T) (hBC : B ≤ C) (hBD : B ≤ D0) (hBw : B ≤ w.heap.size)
    (hT : Bk w T (tmr C J 0 (.iface 78 (.pointer (some ⟨D0, 0, none⟩))) 4294967296 false) 74) (hD0 : Bk w D0 #[.bool ans, .int .i64 0] 77)
    (hC : Bk w C #[.int .u64 n, .int .i64 s, .pointer none, .int .i64 nows, ds, fs, ss, .bool ans] 49) (h1 : w.ownsRow B 34 1 ds k dl) (h2 : w.ownsRow B 1 1 fs k fl) (h3 : w.ownsRow B 78 1 ss k sl) :
    Calls Yba.prog 16 #[.pointer (some ⟨T, 0, none⟩), .int .i64 d] w fun e w' => e = .returned (.tuple #[]) ∧ ∃ D x, Bk w' D0 #[.bool ans, .int .i64 1] 77 ∧ Bk w' T (tmr C J 0 (.iface 78 (.pointer (some ⟨D, 0, none⟩))) x false) 74 ∧ ClkAt w' B C n s nows ans (dl ++ [.int .i64 d]) (fl ++ [runFn T]) (sl ++ [.pointer (some ⟨D, 0, none⟩)]) (k + 1) ∧ Fr B [74, 77, 49, 34, 1, 78] w w' := by
  have hT1 : Bk (w.setCell ⟨T, 2, none⟩ (.int .i32 1)) T (tmr C J 1 (.iface 78 (.pointer (some ⟨D0, 0, none⟩))) 4294967296 false) 74 := hT.set 2 _
  have ndt : D0 ≠ T := Bk.ne hD0 hT (by decide)
  have nct : C ≠ T := Bk.ne hC hT (by decide)
  have ncd : C ≠ D0 := Bk.ne hC hD0 (by decide)
  have hD1 : Bk (w.setCell ⟨T, 2, none⟩ (.int .i32 1)) D0 #[.bool ans, .int .i64 0] 77 := hD0.put ndt
  have hC1 := hC.put (a := ⟨T, 2, none⟩) (v := .int .i32 1) nct
  have a1 := own_set h1 hT (by decide) 2 (.int .i32 1)
  have a2 := own_set h2 hT (by decide) 2 (.int .i32 1)
  have a3 := own_set h3 hT (by decide) 2 (.int .i32 1)
  have hf1 : Fr B [74, 77, 49, 34, 1, 78] w (w.setCell ⟨T, 2, none⟩ (.int .i32 1)) := (Fr.refl _ _ _).set hT hB (by decide) _
  have hD2 : Bk ((w.setCell ⟨T, 2, none⟩ (.int .i32 1)).setCell ⟨D0, 1, none⟩ (.int .i64 1)) D0 #[.bool ans, .int .i64 1] 77 := hD1.set 1 _
  have hT2 := hT1.put (a := ⟨D0, 1, none⟩) (v := .int .i64 1) ndt.symm
  have hC2 := hC1.put (a := ⟨D0, 1, none⟩) (v := .int .i64 1) ncd
  have b1 := own_set a1 hD1 (by decide) 1 (.int .i64 1)
  have b2 := own_set a2 hD1 (by decide) 1 (.int .i64 1)
  have b3 := own_set a3 hD1 (by decide) 1 (.int .i64 1)
  have hf2 := hf1.set hD1 hBD (by decide) (i := 1) (.int .i64 1)
  cases ans with
  | false =>
    refine (arm_core B T C J n s nows ds fs ss _ false dl fl sl k 4294967296 8589934592 d w _ hk hB hBC (by simpa using hBw) hT (cancel_false T C J D0 1 false _ hT1 hD1) (add_second T 5 _ (hT2.cell 5 rfl) (hT2.free 5) (hT2.cell 6 rfl)) 4294967296 hT2 hC2 b1 b2 b3).mono ?_
    rintro e w' ⟨rfl, D, hD, p1, p2, p3, p4⟩
    exact ⟨rfl, D, _, hD2.fr p4 (by decide), p2, p3, hf2.trans (p4.mono (Nat.le_refl _) (by decide))⟩
  | true =>
    have hT3 : Bk (((w.setCell ⟨T, 2, none⟩ (.int .i32 1)).setCell ⟨D0, 1, none⟩ (.int .i64 1)).setCell ⟨T, 5, none⟩ (.int .u64 0)) T (tmr C J 1 (.iface 78 (.pointer (some ⟨D0, 0, none⟩))) 0 false) 74 := hT2.set 5 _
    refine (arm_core B T C J n s nows ds fs ss _ true dl fl sl k 4294967296 4294967296 d w _ hk hB hBC (by simpa using hBw) hT (cancel_true T C J D0 1 false _ hT1 hD1) (add_first T 5 _ (hT3.cell 5 rfl) (hT3.free 5) (hT3.cell 6 rfl)) 0 hT3 (hC2.put nct) (own_set b1 hT2 (by decide) _ _) (own_set b2 hT2 (by decide) _ _) (own_set b3 hT2 (by decide) _ _)).mono ?_
    rintro e w' ⟨rfl, D, hD, p1, p2, p3, p4⟩
    exact ⟨rfl, D, _, (hD2.put ndt).fr p4 (by decide), p2, p3, (hf2.set hT2 hB (by decide) _).trans (p4.mono (Nat.le_refl _) (by decide))⟩
#print axioms arm_again
end Go.Proofs.Ybulkdask.Clk
