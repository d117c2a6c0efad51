import Derived.Test.YbulkdaskSeen
import Derived.Test.YbulkdaskWg
import Derived.Deep.QuietTactic
import Derived.BigQuiet
import Derived.BigRegion
import Derived.RegionTactic
import Derived.Deep.RegionWith
import Derived.Deep.DeepCutAuto
namespace Go.Proofs.Ybulkdask.Clk
open Go.RowKit Go.Proofs.Ybulkdask.Wg Go.Proofs.Ybulkdask.Lk

theorem meth_stop (a : Addr) (w : World) : (method 247 78 (.pointer (some a)) "Stop").run Yba.prog w = .ok (108, .pointer (some a)) w := by kernel_rfl
theorem meth_after (a : Addr) (w : World) : (method 247 44 (.pointer (some a)) "AfterFunc").run Yba.prog w = .ok (97, .pointer (some a)) w := by kernel_rfl
theorem meth_now (a : Addr) (w : World) : (method 247 44 (.pointer (some a)) "Now").run Yba.prog w = .ok (99, .pointer (some a)) w := by kernel_rfl

/-- What the timer's block holds. -/
def tmr (C J : Nat) (mu : Int) (tv : Value) (x : Int) (st : Bool) : Array Value :=
  #[.iface 44 (.pointer (some ⟨C, 0, none⟩)), .func (.func 15) #[.pointer (some ⟨J, 0, none⟩)] #[], .int .i32 mu, .int .u32 0, tv, .int .u64 x, .int .u32 0, .bool st]

/-- '(*Timer).cancel', nothing scheduled. -/
theorem cancel_nil (T C J : Nat) (mu x : Int) (st : Bool) (w : World) (hb : Bk w T (tmr C J mu .nilIface x st) 74) :
    Calls Yba.prog 30 #[.pointer (some ⟨T, 0, none⟩)] w fun e w' => e = .returned (.tuple #[]) ∧ w' = w := by
  have c4 : w.cell? ⟨T, 4, none⟩ = some .nilIface := hb.cell 4 rfl
  have HB : Hid (Bk w T (tmr C J mu .nilIface x st) 74) := hb
  clear hb
  go_enter Yba.func30, Yba.ntmps30
  go_wp2_with fail
  refine bodyPost_end (results_none rfl _ _ _) rfl ⟨rfl, rfl⟩

set_option maxRecDepth 100000 in
/-- '(*Timer).cancel', a call scheduled that the clock stops in time. -/
theorem cancel_true (T C J D : Nat) (mu : Int) (st : Bool) (w : World) (hb : Bk w T (tmr C J mu (.iface 78 (.pointer (some ⟨D, 0, none⟩))) 4294967296 st) 74) (hd : Bk w D #[.bool true, .int .i64 0] 77) :
    Calls Yba.prog 30 #[.pointer (some ⟨T, 0, none⟩)] w fun e w' => e = .returned (.tuple #[]) ∧ w' = (w.setCell ⟨D, 1, none⟩ (.int .i64 1)).setCell ⟨T, 5, none⟩ (.int .u64 0) := by
  have c4 : w.cell? ⟨T, 4, none⟩ = some (.iface 78 (.pointer (some ⟨D, 0, none⟩))) := hb.cell 4 rfl
  have HB1 : Hid (Bk (w.setCell ⟨D, 1, none⟩ (.int .i64 1)) T (tmr C J mu (.iface 78 (.pointer (some ⟨D, 0, none⟩))) 4294967296 st) 74) := hb.put (Bk.ne hb hd (by decide))
  have HS : Hid (Calls Yba.prog 108 #[.pointer (some ⟨D, 0, none⟩)] w fun e w' => e = .returned (.bool true) ∧ w' = w.setCell ⟨D, 1, none⟩ (.int .i64 (0 + 1))) := stop D true 0 w (by decide) (by decide) hd
  have HA : Hid (Calls Yba.prog 31 #[.pointer (some ⟨T, 5, none⟩), .int .i64 (-1)] (w.setCell ⟨D, 1, none⟩ (.int .i64 1)) fun e w' => e = .returned (.tuple #[]) ∧ w' = (w.setCell ⟨D, 1, none⟩ (.int .i64 1)).setCell ⟨T, 5, none⟩ (.int .u64 0)) := add_back T 5 _ (HB1.out.cell 5 rfl) (HB1.out.free 5) (HB1.out.cell 6 rfl)
  clear hb hd HB1
  have hm := meth_stop ⟨D, 0, none⟩
  go_enter Yba.func30, Yba.ntmps30
  go_wp2_with fail
  refine HS.out.mono ?_
  rintro e w' ⟨rfl, rfl⟩
  go_wp2_with (go_at_call 41; go_in)
  refine HA.out.mono ?_
  rintro e w' ⟨rfl, rfl⟩
  go_wp2_with fail
  refine bodyPost_end (results_none rfl _ _ _) rfl ?_
  go_wp2_with fail
  refine bodyPost_end (results_none rfl _ _ _) rfl ⟨rfl, rfl⟩

set_option maxRecDepth 100000 in
/-- '(*Timer).cancel', a call scheduled that the clock does not stop any more. -/
theorem cancel_false (T C J D : Nat) (mu : Int) (st : Bool) (w : World) (hb : Bk w T (tmr C J mu (.iface 78 (.pointer (some ⟨D, 0, none⟩))) 4294967296 st) 74) (hd : Bk w D #[.bool false, .int .i64 0] 77) :
    Calls Yba.prog 30 #[.pointer (some ⟨T, 0, none⟩)] w fun e w' => e = .returned (.tuple #[]) ∧ w' = w.setCell ⟨D, 1, none⟩ (.int .i64 1) := by
  have c4 : w.cell? ⟨T, 4, none⟩ = some (.iface 78 (.pointer (some ⟨D, 0, none⟩))) := hb.cell 4 rfl
  have HS : Hid (Calls Yba.prog 108 #[.pointer (some ⟨D, 0, none⟩)] w fun e w' => e = .returned (.bool false) ∧ w' = w.setCell ⟨D, 1, none⟩ (.int .i64 (0 + 1))) := stop D false 0 w (by decide) (by decide) hd
  clear hb hd
  have hm := meth_stop ⟨D, 0, none⟩
  go_enter Yba.func30, Yba.ntmps30
  go_wp2_with fail
  refine HS.out.mono ?_
  rintro e w' ⟨rfl, rfl⟩
  go_wp2_with fail
  refine bodyPost_end (results_none rfl _ _ _) rfl ⟨rfl, rfl⟩

/-- '(*Timer).Arm' once the timer is stopped: nothing. -/
theorem arm_stopped (B T C J : Nat) (tv : Value) (x d : Int) (w : World) (hB : B ≤ T) (hb : Bk w T (tmr C J 0 tv x true) 74) :
    Calls Yba.prog 16 #[.pointer (some ⟨T, 0, none⟩), .int .i64 d] w fun e w' => e = .returned (.tuple #[]) ∧ Bk w' T (tmr C J 0 tv x true) 74 ∧ Fr B [74] w w' := by
  have c2 : w.cell? ⟨T, 2, none⟩ = some (.int .i32 0) := hb.cell 2 rfl
  have f2 := hb.free 2
  have h1 : Bk (w.setCell ⟨T, 2, none⟩ (.int .i32 1)) T (tmr C J 1 tv x true) 74 := hb.set 2 _
  have d7 : (w.setCell ⟨T, 2, none⟩ (.int .i32 1)).cell? ⟨T, 7, none⟩ = some (.bool true) := h1.cell 7 rfl
  have e7 : w.cell? ⟨T, 7, none⟩ = some (.bool true) := hb.cell 7 rfl
  have HL : Hid (Calls Yba.prog 18 #[.pointer (some ⟨T, 2, none⟩)] w fun e w' => e = .returned (.tuple #[]) ∧ w' = w.setCell ⟨T, 2, none⟩ (.int .i32 1)) := lock _ _ c2 f2
  have HU : Hid (CallsD Yba.prog 19 #[.pointer (some ⟨T, 2, none⟩)] .returning (w.setCell ⟨T, 2, none⟩ (.int .i32 1)) fun e u' w' => u' = .returning ∧ (e = .returned (.tuple #[]) ∧ w' = (w.setCell ⟨T, 2, none⟩ (.int .i32 1)).setCell ⟨T, 2, none⟩ (.int .i32 0))) := unlockD _ _ _ (h1.cell 2 rfl) (h1.free 2)
  have HP : Hid (Bk ((w.setCell ⟨T, 2, none⟩ (.int .i32 1)).setCell ⟨T, 2, none⟩ (.int .i32 0)) T (tmr C J 0 tv x true) 74) := h1.set 2 _
  have HF : Hid (Fr B [74] w ((w.setCell ⟨T, 2, none⟩ (.int .i32 1)).setCell ⟨T, 2, none⟩ (.int .i32 0))) := ((Fr.refl _ _ _).set hb hB (by decide) _).set h1 hB (by decide) _
  clear hb h1 c2 f2
  go_enter_defers Yba.func16, Yba.ntmps16
  go_wp2_with fail
  refine HL.out.mono ?_
  rintro e w' ⟨rfl, rfl⟩
  go_wp2_with fail
  refine leaves_cons (f := 19) (args := #[.pointer (some ⟨T, 2, none⟩)]) (by simp) (by simp [go_sem]) ?_
  refine HU.out.mono ?_
  rintro e u' w'' ⟨rfl, rfl, rfl⟩
  exact ⟨_, results_none rfl _ _ _, rfl, HP.out, HF.out⟩
end Go.Proofs.Ybulkdask.Clk
