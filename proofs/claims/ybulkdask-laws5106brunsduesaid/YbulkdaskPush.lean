import Derived.Test.YbulkdaskDown
import Derived.Test.YbulkdaskClk
namespace Go.Proofs.Ybulkdask.Hp
open Go.RowKit Go.Proofs.Ybulkdask.Tm Go.Proofs.Ybulkdask.Clk
set_option linter.unusedSimpArgs false
set_option linter.unusedVariables false

theorem inf93 : ∃ i, Yba.prog.info? 93 = some i ∧ i.zero = some (.pointer none) ∧ i.size = 1 ∧ i.bytes = 8 := by
  have h : (Yba.prog.info? 93).map (fun i => (i.zero, i.size, i.bytes)) = some (some (.pointer none), 1, 8) := by kernel_rfl
  obtain ⟨i, hi, he⟩ := Option.map_eq_some_iff.1 h
  simp only [Prod.mk.injEq] at he
  exact ⟨i, hi, he.1, he.2.1, he.2.2⟩

theorem own_slice {w : World} {base e size n : Nat} {v : Value} {xs : List Value} (h : w.ownsRow base e size v n xs) : ∃ a cap, v = .slice a n cap := by
  rcases h.2 with ⟨rfl, h0⟩ | ⟨g, cap, cur, rfl, _⟩
  · exact ⟨none, 0, by rw [h0]⟩
  · exact ⟨_, _, rfl⟩

theorem Tim.grown {w w' : World} {B M : Nat} {P dd : Nat → Nat} {fv : Nat → Value} {i base size n : Nat} {v : Value} {xs : List Value} {e : TypeId} (h : Tim w B M P dd fv i) (hg : w.grownBy w' v.ownBlock) (ho : w.ownsRow base e size v n xs) (he : 95 ≠ e) : Tim w' B M P dd fv i := by
  obtain ⟨hB, id0, hi⟩ := h
  exact ⟨hB, id0, Bk.grownOwn hg ho hi he⟩
theorem Tim.alloc {w : World} {B M : Nat} {P dd : Nat → Nat} {fv : Nat → Value} {i : Nat} (h : Tim w B M P dd fv i) (o : Obj) : Tim (w.alloc o) B M P dd fv i := by
  obtain ⟨hB, id0, hi⟩ := h
  exact ⟨hB, id0, hi.alloc o⟩

theorem ta93 (a : Addr) (w : World) : (Instr.typeAssert (.iface 93 (.pointer (some a))) 20 93 false).run Yba.prog w = .ok (.pointer (some a)) w := by kernel_rfl

set_option maxHeartbeats 1600000 in
set_option maxRecDepth 100000 in
/-- '(*timerHeap).Push'. -/
theorem mpush (w : World) (B M : Nat) (P dd : Nat → Nat) (fv : Nat → Value) (N : Nat) (pend : Value) (h : List Nat) (x : Nat) (mv : Array Value) (H : HeapAt w B M P dd fv N pend h) (hM : Bk w M mv 91) (hp : mv[7]? = some pend)
    (hx : x < N) (hn : h.length < 1024) (hB : B ≤ M) (hBw : B ≤ w.heap.size) :
    Calls Yba.prog 115 #[.pointer (some ⟨M, 7, none⟩), .iface 93 (ptr P x)] w fun e w' => e = .returned (.tuple #[]) ∧ ∃ pend', HeapAt w' B M P dd fv N pend' (h ++ [x]) ∧ Bk w' M (mv.setIfInBounds 7 pend') 91 ∧ Fr B [91, 93, 95] w w' := by
  have hpx : ptr P x = .pointer (some ⟨P x, 0, none⟩) := rfl
  rw [hpx]
  obtain ⟨a, cap, hpe⟩ := own_slice H.own
  obtain ⟨n, hnl⟩ : ∃ n, n = h.length := ⟨_, rfl⟩
  rw [← hnl] at hpe hn
  obtain ⟨hBx, ix, hbx⟩ := H.tim x hx
  have c7 : w.cell? ⟨M, 7, none⟩ = some (.slice a n cap) := by rw [← hpe]; exact hM.cell 7 hp
  have c6 : w.cell? ⟨P x, 6, none⟩ = some (.int .i64 ix) := hbx.cell 6 rfl
  have f6 := hbx.free 6
  have f7 := hM.free 7
  have hne : M ≠ P x := Bk.ne hM hbx (by decide)
  have hlt := hM.lt
  have hltx := hbx.lt
  obtain ⟨i0, hi, hz0, hz1, hz2⟩ := inf93
  have HO : Hid ((w.setCell ⟨P x, 6, none⟩ (.int .i64 (n : Int))).ownsRow B 93 1 (.slice a n cap) n (h.map (ptr P))) := by
    have := H.own
    rw [← hnl, hpe] at this
    exact own_set this hbx (by decide) 6 _
  have HM1 : Hid (Bk (w.setCell ⟨P x, 6, none⟩ (.int .i64 (n : Int))) M mv 91) := hM.put hne
  have HT1 : Hid (∀ i, i < N → Tim (w.setCell ⟨P x, 6, none⟩ (.int .i64 (n : Int))) B M P dd fv i) := fun i hi => (H.tim i hi).set6 _ _
  have HF1 : Hid (Fr B [91, 93, 95] w (w.setCell ⟨P x, 6, none⟩ (.int .i64 (n : Int)))) := (Fr.refl B [91, 93, 95] w).set hbx hBx (by decide) _
  have HMEM : Hid (∀ i ∈ h, i < N) := H.mem
  have HNL : Hid (n = h.length) := hnl
  have HPE : Hid (mv[7]? = some (.slice a n cap)) := by rw [← hpe]; exact hp
  clear H hM hbx hp hpe hnl
  have hta := ta93 ⟨P x, 0, none⟩ w
  go_enter Yba.func115, Yba.ntmps115
  go_wp2_with (at_builtin; refine wpList_append_own _ rfl _ _ 81 rfl B 93 i0 (.pointer none) 1 8 Yba.underlying81 hi hz0 hz1 hz2 rfl (by decide) (.slice a n cap) n (h.map (ptr P)) rfl (HO.out.alloc _) ⟨w.heap.size, 0, none⟩ 1 1 [.pointer (some ⟨P x, 0, none⟩)] rfl rfl (one_new _ _ _ _ (by simp)) (by intro u hu; simp at hu; subst hu; rfl) (by unfold maxLen; omega) (by omega) (by simp; omega) ?_)
  intro v1 w1 ho1 hg1 hn1
  obtain ⟨g1, x1, hv1⟩ := Go.Joins.ownsRow_form ho1 (by omega)
  subst hv1
  have hM1 : Bk w1 M mv 91 := Bk.grownOwn hg1 (HO.out.alloc _) (HM1.out.alloc _) (by decide)
  have hf1 : Fr B [91, 93, 95] w w1 := Fr.grown2 hg1 (HO.out.alloc _) (HF1.out.alloc _) (Nat.le_refl _) (by decide)
  have hT1 : ∀ i, i < N → Tim w1 B M P dd fv i := fun i hi => ((HT1.out i hi).alloc _).grown hg1 (HO.out.alloc _) (by decide)
  have HH : Hid (HeapAt (w1.setCell ⟨M, 7, none⟩ (.slice (some ⟨g1, 0, none⟩) (n + 1) x1)) B M P dd fv N (.slice (some ⟨g1, 0, none⟩) (n + 1) x1) (h ++ [x])) := by
    refine ⟨?_, fun i hi => (hT1 i hi).put hM1 (by decide) _, ?_⟩
    · have := own_set ho1 hM1 (by decide) 7 (.slice (some ⟨g1, 0, none⟩) (n + 1) x1)
      rw [List.map_append, List.length_append, ← HNL.out]
      exact this
    · intro i hi
      rcases List.mem_append.1 hi with hi | hi
      · exact HMEM.out i hi
      · simp at hi; subst hi; exact hx
  have HF : Hid (Fr B [91, 93, 95] w (w1.setCell ⟨M, 7, none⟩ (.slice (some ⟨g1, 0, none⟩) (n + 1) x1))) := hf1.set hM1 hB (by decide) _
  have HMM : Hid (Bk (w1.setCell ⟨M, 7, none⟩ (.slice (some ⟨g1, 0, none⟩) (n + 1) x1)) M (mv.setIfInBounds 7 (.slice (some ⟨g1, 0, none⟩) (n + 1) x1)) 91) := hM1.set 7 _
  have hfree := hM1.free 7
  have d7 : w1.cell? ⟨M, 7, none⟩ = some (.slice a n cap) := hM1.cell 7 HPE.out
  clear hM1 hf1 hT1 ho1 hg1 hn1 HO HM1 HT1 HF1 c7
  go_wp2_with fail
  refine bodyPost_end (results_none rfl _ _ _) rfl ⟨rfl, _, HH.out, HMM.out, HF.out⟩

end Go.Proofs.Ybulkdask.Hp
