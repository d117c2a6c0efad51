import Derived.Test.YbulkdaskLocks
import Derived.Test.YbulkdaskDeferValue
import Derived.WalkKit
import Derived.ProofKit
import Derived.Laws.LoneSync
namespace Go.Proofs.Ybulkdask.Wg
open Go.RowKit Go.Proofs.Ybulkdask.Dv

theorem disable (w : World) : (callFunc 43 #[]).run Yba.prog w = .ok (.value (.tuple #[])) w := Go.MuLone.disable Yba.muLib w
theorem enable (w : World) : (callFunc 44 #[]).run Yba.prog w = .ok (.value (.tuple #[])) w := Go.MuLone.enable Yba.muLib w
theorem relMerge (a : Addr) (w : World) : (callFunc 42 #[.pointer (some a)]).run Yba.prog w = .ok (.value (.tuple #[])) w := Go.MuLone.releaseMerge Yba.muLib a w
theorem read (a : Addr) (w : World) : (callFunc 50 #[.pointer (some a)]).run Yba.prog w = .ok (.value (.tuple #[])) w := run_call_marked Yba.func50 (by kernel_rfl) (by kernel_rfl) (by kernel_rfl) .read (by kernel_rfl) a w
theorem bubble (w : World) : (callFunc 45 #[]).run Yba.prog w = .ok (.value (.bool false)) w := by
  rw [run_callFunc_extern Yba.func45 (by kernel_rfl) (by kernel_rfl) (by kernel_rfl) (e := fun _ => pure (.bool false)) (by kernel_rfl)]
  rfl

/-- '(*atomic.Uint64).Add'. -/
theorem add64 (a : Addr) (x y s : Int) (w : World) (hc : w.cell? a = some (.int .u64 x)) (hz : w.frozen? a = false) (hs : (x + y) % 18446744073709551616 = s) :
    Calls Yba.prog 49 #[.pointer (some a), .int .u64 y] w fun e w' => e = .returned (.int .u64 s) ∧ w' = w.setCell a (.int .u64 s) := by
  have hadd := run_call_add (P := Yba.prog) Yba.func66 (by kernel_rfl) (by kernel_rfl) (by kernel_rfl) .u64 (by kernel_rfl) (y := y) (s := s) hc hz (by simp only [go_sem, IntKind.wrap, IntKind.bits, IntKind.signed]; simp [hs])
  obtain ⟨b, o, sp⟩ := a
  go_enter Yba.func49, Yba.ntmps49
  go_wp2
  go_ret
  exact ⟨rfl, rfl⟩

set_option maxHeartbeats 800000 in
set_option maxRecDepth 100000 in
/-- '(*sync.WaitGroup).Add(1), nobody counted, nobody waiting. -/
theorem add_first (b o : Nat) (w : World) (hc : w.cell? ⟨b, o, none⟩ = some (.int .u64 0)) (hz : w.frozen? ⟨b, o, none⟩ = false) (hc1 : w.cell? ⟨b, o + 1, none⟩ = some (.int .u32 0)) :
    Calls Yba.prog 31 #[.pointer (some ⟨b, o, none⟩), .int .i64 1] w fun e w' => e = .returned (.tuple #[]) ∧ w' = w.setCell ⟨b, o, none⟩ (.int .u64 4294967296) := by
  have hd := disable
  have hb := bubble
  have hr := read
  have hm := relMerge
  have hc2 : (w.setCell ⟨b, o, none⟩ (.int .u64 4294967296)).cell? ⟨b, o + 1, none⟩ = some (.int .u32 0) := by rw [World.cell?_setCell_other _ _ _ _ (by simp)]; exact hc1
  have hcv := run_convert_to_unsafe (P := Yba.prog) (src := 120) (dst := 84) Yba.underlying120 Yba.underlying84 (by kernel_rfl) hc2
  have hcw := run_convert_to_unsafe (P := Yba.prog) (src := 114) (dst := 84) Yba.underlying114 Yba.underlying84 (by kernel_rfl) hc
  have b1 : bits .and .u64 4294967296 2147483648 = 0 := by decide
  have b2 : bits .and .u64 4294967296 2147483647 = 0 := by decide
  refine calls_of_wp_v Yba.func31 rfl ?_
  simp only [Yba.ntmps31, List.size_toArray, List.length_cons, List.length_nil, Nat.reduceAdd, Nat.reduceSub, Array.replicate_succ,
     Array.replicate_zero, List.push_toArray, List.append_toArray, List.nil_append, List.cons_append]
  go_wp2_with fail
  refine (add64 ⟨b, o, none⟩ 0 4294967296 4294967296 w hc hz (by decide)).mono ?_
  rintro e w' ⟨rfl, rfl⟩
  go_wp2_with fail
  try simp only [Exit.inBlock, Exit.then]
  refine ⟨.func 44, #[], #[], .tuple #[], .tuple #[], _, rfl, ?_, results_none rfl _ _ _, rfl, rfl⟩
  simp [go_sem, enable]

set_option maxHeartbeats 800000 in
set_option maxRecDepth 100000 in
/-- '(*sync.WaitGroup).Add(1), one counted, nobody waiting. -/
theorem add_second (b o : Nat) (w : World) (hc : w.cell? ⟨b, o, none⟩ = some (.int .u64 4294967296)) (hz : w.frozen? ⟨b, o, none⟩ = false) (hc1 : w.cell? ⟨b, o + 1, none⟩ = some (.int .u32 0)) :
    Calls Yba.prog 31 #[.pointer (some ⟨b, o, none⟩), .int .i64 1] w fun e w' => e = .returned (.tuple #[]) ∧ w' = w.setCell ⟨b, o, none⟩ (.int .u64 8589934592) := by
  have hd := disable
  have hb := bubble
  have hr := read
  have hm := relMerge
  have hc2 : (w.setCell ⟨b, o, none⟩ (.int .u64 8589934592)).cell? ⟨b, o + 1, none⟩ = some (.int .u32 0) := by rw [World.cell?_setCell_other _ _ _ _ (by simp)]; exact hc1
  have hcv := run_convert_to_unsafe (P := Yba.prog) (src := 120) (dst := 84) Yba.underlying120 Yba.underlying84 (by kernel_rfl) hc2
  have hcw := run_convert_to_unsafe (P := Yba.prog) (src := 114) (dst := 84) Yba.underlying114 Yba.underlying84 (by kernel_rfl) hc
  have b1 : bits .and .u64 8589934592 2147483648 = 0 := by decide
  have b2 : bits .and .u64 8589934592 2147483647 = 0 := by decide
  refine calls_of_wp_v Yba.func31 rfl ?_
  simp only [Yba.ntmps31, List.size_toArray, List.length_cons, List.length_nil, Nat.reduceAdd, Nat.reduceSub, Array.replicate_succ,
     Array.replicate_zero, List.push_toArray, List.append_toArray, List.nil_append, List.cons_append]
  go_wp2_with fail
  refine (add64 ⟨b, o, none⟩ 4294967296 4294967296 8589934592 w hc hz (by decide)).mono ?_
  rintro e w' ⟨rfl, rfl⟩
  go_wp2_with fail
  try simp only [Exit.inBlock, Exit.then]
  refine ⟨.func 44, #[], #[], .tuple #[], .tuple #[], _, rfl, ?_, results_none rfl _ _ _, rfl, rfl⟩
  simp [go_sem, enable]

set_option maxHeartbeats 800000 in
set_option maxRecDepth 100000 in
/-- '(*sync.WaitGroup).Add(-1), one counted, nobody waiting. -/
theorem add_back (b o : Nat) (w : World) (hc : w.cell? ⟨b, o, none⟩ = some (.int .u64 4294967296)) (hz : w.frozen? ⟨b, o, none⟩ = false) (hc1 : w.cell? ⟨b, o + 1, none⟩ = some (.int .u32 0)) :
    Calls Yba.prog 31 #[.pointer (some ⟨b, o, none⟩), .int .i64 (-1)] w fun e w' => e = .returned (.tuple #[]) ∧ w' = w.setCell ⟨b, o, none⟩ (.int .u64 0) := by
  have hd := disable
  have hb := bubble
  have hr := read
  have hm := relMerge
  have hc2 : (w.setCell ⟨b, o, none⟩ (.int .u64 0)).cell? ⟨b, o + 1, none⟩ = some (.int .u32 0) := by rw [World.cell?_setCell_other _ _ _ _ (by simp)]; exact hc1
  have hcv := run_convert_to_unsafe (P := Yba.prog) (src := 120) (dst := 84) Yba.underlying120 Yba.underlying84 (by kernel_rfl) hc2
  have hcw := run_convert_to_unsafe (P := Yba.prog) (src := 114) (dst := 84) Yba.underlying114 Yba.underlying84 (by kernel_rfl) hc
  have b1 : bits .and .u64 0 2147483648 = 0 := by decide
  have b2 : bits .and .u64 0 2147483647 = 0 := by decide
  refine calls_of_wp_v Yba.func31 rfl ?_
  simp only [Yba.ntmps31, List.size_toArray, List.length_cons, List.length_nil, Nat.reduceAdd, Nat.reduceSub, Array.replicate_succ,
     Array.replicate_zero, List.push_toArray, List.append_toArray, List.nil_append, List.cons_append]
  go_wp2_with fail
  refine (add64 ⟨b, o, none⟩ 4294967296 18446744069414584320 0 w hc hz (by decide)).mono ?_
  rintro e w' ⟨rfl, rfl⟩
  go_wp2_with fail
  try simp only [Exit.inBlock, Exit.then]
  refine ⟨.func 44, #[], #[], .tuple #[], .tuple #[], _, rfl, ?_, results_none rfl _ _ _, rfl, rfl⟩
  simp [go_sem, enable]

end Go.Proofs.Ybulkdask.Wg
