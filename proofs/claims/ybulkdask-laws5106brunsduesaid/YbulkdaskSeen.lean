import Derived.Test.YbulkdaskClk
namespace Go.Proofs.Ybulkdask.Clk
open Go.RowKit

theorem inf27 : ∃ i, Yba.prog.info? 27 = some i ∧ i.zero = some (.agg #[.int .u64 0, .int .i64 0, .pointer none]) ∧ i.size = 3 ∧ i.bytes = 24 := by
  have h : (Yba.prog.info? 27).map (fun i => (i.zero, i.size, i.bytes)) = some (some (.agg #[.int .u64 0, .int .i64 0, .pointer none]), 3, 24) := by kernel_rfl
  obtain ⟨i, hi, he⟩ := Option.map_eq_some_iff.1 h
  simp only [Prod.mk.injEq] at he
  exact ⟨i, hi, he.1, he.2.1, he.2.2⟩

theorem three_new (w : World) (x y z : Value) (t : TypeId) (g : Nat) (hg : g = w.heap.size) (j : Nat) (u : Value) (h : [x, y, z][j]? = some u) : (w.alloc (.cells #[x, y, z] t)).cell? ((⟨g, 0, none⟩ : Addr).add j) = some u := by
  subst hg
  have e : (⟨w.heap.size, 0, none⟩ : Addr).add j = ⟨w.heap.size, j, none⟩ := by simp [Addr.add]; intro h; exact h.symm
  rw [e, World.cell?_alloc_new]
  simpa using h

set_option maxHeartbeats 800000 in
set_option maxRecDepth 100000 in
/-- The closure that f is: it appends the time to 'seen'. -/
theorem seen (B S : Nat) (n s : Int) (w : World) (hB : B ≤ S) (hBw : B ≤ w.heap.size) (hb : Bk w S #[.slice none 0 0] 50) :
    Calls Yba.prog 13 #[.agg #[.int .u64 n, .int .i64 s, .pointer none], .pointer (some ⟨S, 0, none⟩)] w fun e w' => e = .returned (.tuple #[]) ∧ (∃ g x, Bk w' S #[.slice (some ⟨g, 0, none⟩) 1 x] 50 ∧ w'.ownsRow B 27 3 (.slice (some ⟨g, 0, none⟩) 1 x) 1 [.int .u64 n, .int .i64 s, .pointer none]) ∧ Fr B [50] w w' := by
  have c0 : w.cell? ⟨S, 0, none⟩ = some (.slice none 0 0) := hb.cell 0 rfl
  have f0 := hb.free 0
  have hlt := hb.lt
  have HB : Hid (Bk w S #[.slice none 0 0] 50) := hb
  clear hb
  obtain ⟨i0, hi, hz0, hz1, hz2⟩ := inf27
  go_enter Yba.func13, Yba.ntmps13
  go_wp2_with (at_builtin; refine wpList_append_own _ rfl _ _ 50 rfl B 27 i0 (.agg #[.int .u64 0, .int .i64 0, .pointer none]) 3 24 Yba.underlying50 hi hz0 hz1 hz2 rfl (by decide) (.slice none 0 0) 0 [] rfl (World.ownsRow_nil _ _ _ _) ⟨w.heap.size + 1, 0, none⟩ 1 1 [.int .u64 n, .int .i64 s, .pointer none] rfl rfl (three_new _ _ _ _ _ _ (by simp)) (by intro u hu; simp at hu; rcases hu with rfl | rfl | rfl <;> rfl) (by unfold maxLen; omega) (by omega) (by simp; omega) ?_)
  intro v1 w1 ho1 hg1 hn1
  obtain ⟨g1, x1, hv1⟩ := Go.Joins.ownsRow_form ho1 (by omega)
  subst hv1
  have hC1 := Bk.grownOwn hg1 (World.ownsRow_nil _ B 27 3) ((HB.out.alloc _).alloc _) (by decide)
  have hf1 : Fr B [50] w w1 := (((Fr.refl _ _ _).alloc _).alloc _).trans ⟨hg1.os, hg1.tape, hg1.output, hg1.size, fun k hk _ => hg1.block k hk (by simp [Value.ownBlock])⟩
  have d0 : w1.cell? ⟨S, 0, none⟩ = some (.slice none 0 0) := hC1.cell 0 rfl
  have g0 := hC1.free 0
  have HC1 : Hid (Bk (w1.setCell ⟨S, 0, none⟩ (.slice (some ⟨g1, 0, none⟩) 1 x1)) S #[.slice (some ⟨g1, 0, none⟩) 1 x1] 50) := hC1.set 0 _
  have HO1 : Hid ((w1.setCell ⟨S, 0, none⟩ (.slice (some ⟨g1, 0, none⟩) 1 x1)).ownsRow B 27 3 (.slice (some ⟨g1, 0, none⟩) 1 x1) 1 [.int .u64 n, .int .i64 s, .pointer none]) := own_set ho1 hC1 (by decide) _ _
  have HF1 : Hid (Fr B [50] w (w1.setCell ⟨S, 0, none⟩ (.slice (some ⟨g1, 0, none⟩) 1 x1))) := hf1.set hC1 hB (by decide) _
  clear hC1 hf1 ho1 hg1 hn1 HB c0 f0
  go_wp2_with fail
  refine bodyPost_end (results_none rfl _ _ _) rfl ?_
  exact ⟨rfl, ⟨g1, x1, HC1.out, HO1.out⟩, HF1.out⟩
#print axioms seen
end Go.Proofs.Ybulkdask.Clk
