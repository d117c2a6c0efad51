import Derived.Test.YbulkdaskCEq
namespace Go.Proofs.Ybulkdask.Clk
open Go.RowKit

variable {w : World} {B N C S J T : Nat} {n s on os : Int} {p : Nat} {ans : Bool}

/-- The first Arm. -/
theorem arm_first (d : Int) (h : Bef w B N C S J T n s on os p ans false (.slice none 0 0) (.slice none 0 0) (.slice none 0 0) .nilIface 0 0 [] [] []) :
    Calls Yba.prog 16 #[.pointer (some ⟨T, 0, none⟩), .int .i64 d] w fun e w' => e = .returned (.tuple #[]) ∧ ∃ D ds fs ss, Bef w' B N C S J T n s on os p ans false ds fs ss (.iface 78 (.pointer (some ⟨D, 0, none⟩))) 4294967296 1 [.int .i64 d] [runFn T] [.pointer (some ⟨D, 0, none⟩)] ∧ Bk w' D #[.bool ans, .int .i64 0] 77 ∧ B ≤ D ∧ Below B w w' := by
  refine (arm_nil B T C J n s 0 (.slice none 0 0) (.slice none 0 0) (.slice none 0 0) ans [] [] [] 0 d w (by omega) h.bT h.bC h.bw h.tim h.clk h.r1 h.r2 h.r3).mono ?_
  rintro e w' ⟨rfl, D, hD, hbD, hT, hclk, hF⟩
  obtain ⟨ds, fs, ss, k1, k2, k3, k4⟩ := hclk.ex
  exact ⟨rfl, D, ds, fs, ss, ⟨k1, k2, k3, k4, hT, h.jb.fr hF (by decide), h.sn.fr hF (by decide), h.nw.fr hF (by decide), h.bN, h.bC, h.bS, h.bT, Nat.le_trans h.bw hF.size⟩, hbD, Nat.le_trans h.bw hD, hF.toBelow h.bw⟩

/-- The timer marked as stopped. -/
theorem Bef.stop {st : Bool} {ds fs ss tv : Value} {x : Int} {k : Nat} {dl fl sl : List Value} (h : Bef w B N C S J T n s on os p ans st ds fs ss tv x k dl fl sl) :
    Bef (w.setCell ⟨T, 7, none⟩ (.bool true)) B N C S J T n s on os p ans true ds fs ss tv x k dl fl sl where
  clk := h.clk.put (Bk.ne h.clk h.tim (by decide))
  r1 := own_set h.r1 h.tim (by decide) _ _
  r2 := own_set h.r2 h.tim (by decide) _ _
  r3 := own_set h.r3 h.tim (by decide) _ _
  tim := h.tim.set 7 _
  jb := h.jb.put (Bk.ne h.jb h.tim (by decide))
  sn := h.sn.put (Bk.ne h.sn h.tim (by decide))
  nw := h.nw.put (Bk.ne h.nw h.tim (by decide))
  bN := h.bN
  bC := h.bC
  bS := h.bS
  bT := h.bT
  bw := by simpa using h.bw
end Go.Proofs.Ybulkdask.Clk
