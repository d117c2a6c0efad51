import Derived.Test.YbulkdaskPopB
import Derived.Test.YbulkdaskLocks
import Derived.Defers
namespace Go.Proofs.Ybulkdask.Hp
open Go.RowKit Go.Proofs.Ybulkdask.Tm Go.Proofs.Ybulkdask.Clk Go.Proofs.Ybulkdask.Lk
set_option linter.unusedSimpArgs false
set_option linter.unusedVariables false

/-- What the clock's block holds. -/
def man (M : Nat) (adv mu now : Int) (pend : Value) (seq : Int) : Array Value :=
  #[.int .i32 adv, .int .u32 0, .int .i32 mu, .int .u32 0, .int .u64 now, .int .i64 0, .pointer none, pend, .int .u64 seq, .int .i64 0, .iface 92 (.pointer (some ⟨M, 2, none⟩)), .int .u32 0, .int .u32 0, .int .u64 0, .pointer none, .pointer none, .int .u64 0]

set_option maxRecDepth 100000 in
/-- 'NewManual' at the zero time. -/
theorem newManual (w : World) : Calls Yba.prog 5 #[.agg #[.int .u64 0, .int .i64 0, .pointer none]] w fun e w' => e = .returned (.pointer (some ⟨w.heap.size + 1, 0, none⟩)) ∧ Bk w' (w.heap.size + 1) (man (w.heap.size + 1) 0 0 0 (.slice none 0 0) 0) 91 ∧ Below w.heap.size w w' := by
  go_enter Yba.func5, Yba.ntmps5
  go_wp2_with fail
  go_ret
  refine ⟨rfl, ?_, ?_⟩
  · have h := Bk.new (w.alloc (.cells #[.int .u64 0, .int .i64 0, .pointer none] 27)) (man (w.heap.size + 1) 0 0 0 (.slice none 0 0) 0) 91
    simp only [World.size_alloc] at h
    exact h
  · exact ((Below.refl _ _).alloc (Nat.le_refl _) _).alloc (by simp) _

set_option maxRecDepth 100000 in
/-- '(*Manual).Now', the lock free. -/
theorem now_any (B M : Nat) (adv now : Int) (pend : Value) (seq : Int) (w : World) (hB : B ≤ M) (hM : Bk w M (man M adv 0 now pend seq) 91) :
    Calls Yba.prog 9 #[.pointer (some ⟨M, 0, none⟩)] w fun e w' => e = .returned (.agg #[.int .u64 now, .int .i64 0, .pointer none]) ∧ Bk w' M (man M adv 0 now pend seq) 91 ∧ Fr B [91] w w' := by
  have h0 : Bk (w.alloc (.cells #[.int .u64 0, .int .i64 0, .pointer none] 27)) M (man M adv 0 now pend seq) 91 := hM.alloc _
  have h1 : Bk ((w.alloc (.cells #[.int .u64 0, .int .i64 0, .pointer none] 27)).setCell ⟨M, 2, none⟩ (.int .i32 1)) M (man M adv 1 now pend seq) 91 := h0.set 2 (.int .i32 1)
  have hne : w.heap.size ≠ M := by have := hM.lt; omega
  have hlt := hM.lt
  have HL : Hid (Calls Yba.prog 18 #[.pointer (some ⟨M, 2, none⟩)] (w.alloc (.cells #[.int .u64 0, .int .i64 0, .pointer none] 27)) fun e w' => e = .returned (.tuple #[]) ∧ w' = (w.alloc (.cells #[.int .u64 0, .int .i64 0, .pointer none] 27)).setCell ⟨M, 2, none⟩ (.int .i32 1)) := lock ⟨M, 2, none⟩ _ (h0.cell 2 rfl) (h0.free 2)
  have c4 : w.cell? ⟨M, 4, none⟩ = some (.int .u64 now) := hM.cell 4 rfl
  have c5 : w.cell? ⟨M, 5, none⟩ = some (.int .i64 0) := hM.cell 5 rfl
  have c6 : w.cell? ⟨M, 6, none⟩ = some (.pointer none) := hM.cell 6 rfl
  have HM1 : Hid (Bk ((w.alloc (.cells #[.int .u64 0, .int .i64 0, .pointer none] 27)).setCell ⟨M, 2, none⟩ (.int .i32 1)) M (man M adv 1 now pend seq) 91) := h1
  have HM0 : Hid (Bk w M (man M adv 0 now pend seq) 91) := hM
  clear h0 h1 hM
  go_enter_defers Yba.func9, Yba.ntmps9
  go_wp2_with fail
  refine HL.out.mono ?_
  rintro e w' ⟨rfl, rfl⟩
  go_wp2_with fail
  have hM1 : Bk ((w.setCell ⟨M, 2, none⟩ (.int .i32 1)).alloc (.cells #[.int .u64 now, .int .i64 0, .pointer none] 27)) M (man M adv 1 now pend seq) 91 := (HM0.out.set 2 _).alloc _
  have hr : Bk ((w.setCell ⟨M, 2, none⟩ (.int .i32 1)).alloc (.cells #[.int .u64 now, .int .i64 0, .pointer none] 27)) w.heap.size #[.int .u64 now, .int .i64 0, .pointer none] 27 := by
    have := Bk.new (w.setCell ⟨M, 2, none⟩ (.int .i32 1)) #[.int .u64 now, .int .i64 0, .pointer none] 27
    simpa using this
  refine leaves_cons (f := 19) (args := #[.pointer (some ⟨M, 2, none⟩)]) (by simp) (by simp [go_sem]) ?_
  refine (unlockD _ _ _ (hM1.cell 2 rfl) (hM1.free 2)).mono ?_
  rintro e u' w'' ⟨rfl, rfl, rfl⟩
  have hr2 := hr.put (a := ⟨M, 2, none⟩) (v := .int .i32 0) hne
  have q0 := hr2.cell 0 rfl
  have q1 := hr2.cell 1 rfl
  have q2 := hr2.cell 2 rfl
  refine ⟨.agg #[.int .u64 now, .int .i64 0, .pointer none], ?_, rfl, ?_, ?_⟩
  · clear hM1 hr hr2 HM0 HM1 HL c4 c5 c6
    simp [results, Yba.results9, go_sem]
  · exact hM1.set 2 _
  · exact (((Fr.refl B [91] w).set HM0.out hB (by decide) _).alloc _).set hM1 hB (by decide) _
end Go.Proofs.Ybulkdask.Hp
