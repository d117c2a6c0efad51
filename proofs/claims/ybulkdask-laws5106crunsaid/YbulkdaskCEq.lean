import Derived.Test.YbulkdaskCNum
import Derived.LaidEql
namespace Go.Proofs.Ybulkdask.Clk
open Go.RowKit

theorem fn_eq (a : Addr) (w : World) : (binOp .eql 1 (.func (.func 32) #[.pointer (some a)] #[]) .nilFunc).run Yba.prog w = .ok (.bool false) w := by kernel_rfl
theorem if_same (a : Addr) (w : World) : (Op.equal 32 (.iface 78 (.pointer (some a))) (.iface 78 (.pointer (some a)))).run Yba.prog w = .ok true w := by
  have h : (Yba.prog.info? 78).map (fun i => i.comparable) = some true := by kernel_rfl
  obtain ⟨i, hi, he⟩ := Option.map_eq_some_iff.1 h
  have h' : (Yba.prog.info? 77).isSome = true := by kernel_rfl
  obtain ⟨j, hj⟩ := Option.isSome_iff_exists.1 h'
  exact run_equalIn_iface_ptr_same w 9998 a Yba.underlying32 Yba.underlying78 hi he hj
theorem if_neq (a : Addr) (w : World) : (binOp .neq 32 (.iface 78 (.pointer (some a))) (.iface 78 (.pointer (some a)))).run Yba.prog w = .ok (.bool false) w := by
  have h := if_same a w
  simp [binOp, go_sem, h]
end Go.Proofs.Ybulkdask.Clk
