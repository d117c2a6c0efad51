import Derived.Test.YbulkdaskPushB
namespace Go.Proofs.Ybulkdask.Hp
open Go.RowKit Go.Proofs.Ybulkdask.Tm Go.Proofs.Ybulkdask.Clk
set_option linter.unusedSimpArgs false
set_option linter.unusedVariables false

set_option maxHeartbeats 1600000 in
set_option maxRecDepth 100000 in
/-- '(*timerHeap).Pop'. -/
theorem mpop (w : World) (B M : Nat) (P dd : Nat → Nat) (fv : Nat → Value) (N : Nat) (pend : Value) (h : List Nat) (n : Nat) (mv : Array Value) (H : HeapAt w B M P dd fv N pend h) (hM : Bk w M mv 91) (hp : mv[7]? = some pend)
    (hl : h.length = n + 1) (hn : n < 1024) (hB : B ≤ M) :
    Calls Yba.prog 114 #[.pointer (some ⟨M, 7, none⟩)] w fun e w' => e = .returned (.iface 93 (ptr P (Ord.at' h n))) ∧ ∃ pend', HeapAt w' B M P dd fv N pend' (h.take n) ∧ Bk w' M (mv.setIfInBounds 7 pend') 91 ∧ Fr B [91, 93, 95] w w' := by
  obtain ⟨g, cap, cur, hpe, hBg, hg, hle, hm, hs, hcell, ht⟩ := H.open (by omega)
  rw [hl] at hpe hle
  obtain ⟨x, hx⟩ : ∃ x, x = Ord.at' h n := ⟨_, rfl⟩
  have hxN : x < N := by rw [hx]; exact H.mem _ (Ord.at_mem h n (by omega))
  obtain ⟨hBx, ix, hbx⟩ := H.tim x hxN
  rw [← hx, show ptr P x = .pointer (some ⟨P x, 0, none⟩) from rfl]
  have c7 : w.cell? ⟨M, 7, none⟩ = some (.slice (some ⟨g, 0, none⟩) (n + 1) cap) := by rw [← hpe]; exact hM.cell 7 hp
  have cn : w.cell? ⟨g, n, none⟩ = some (.pointer (some ⟨P x, 0, none⟩)) := by rw [hx]; exact hg.cell n (hcell n (by omega))
  have f1 := hg.free n
  have f2 := hM.free 7
  have f3 := hbx.free 6
  have n1 : g ≠ M := Bk.ne hg hM (by decide)
  have n2 : g ≠ P x := Bk.ne hg hbx (by decide)
  have n3 : M ≠ P x := Bk.ne hM hbx (by decide)
  have c6 : w.cell? ⟨P x, 6, none⟩ = some (.int .i64 ix) := hbx.cell 6 rfl
  have hw1 : IntKind.i64.wrap ((n : Int) + 1 - 1) = (n : Int) := by rw [IntKind.wrap_i64]; omega
  have b1 : (n : Int) < (n : Int) + 1 := by omega
  have b2 : (n : Int) ≤ (cap : Int) := by omega
  have b3 : n ≤ cap := by omega
  have b4 : (0 : Int) ≤ (n : Int) := by omega
  have hg1 := hg.set n (.pointer none)
  have hM1 : Bk (w.setCell ⟨g, n, none⟩ (.pointer none)) M mv 91 := hM.put (Ne.symm n1)
  have hM2 := hM1.set 7 (.slice (some ⟨g, 0, none⟩) n cap)
  have hx1 : Bk (w.setCell ⟨g, n, none⟩ (.pointer none)) (P x) _ 95 := hbx.put (Ne.symm n2)
  have hx2 : Bk ((w.setCell ⟨g, n, none⟩ (.pointer none)).setCell ⟨M, 7, none⟩ (.slice (some ⟨g, 0, none⟩) n cap)) (P x) _ 95 := hx1.put (Ne.symm n3)
  have hg2 : Bk ((w.setCell ⟨g, n, none⟩ (.pointer none)).setCell ⟨M, 7, none⟩ (.slice (some ⟨g, 0, none⟩) n cap)) g _ 93 := hg1.put n1
  have HM : Hid (Bk (((w.setCell ⟨g, n, none⟩ (.pointer none)).setCell ⟨M, 7, none⟩ (.slice (some ⟨g, 0, none⟩) n cap)).setCell ⟨P x, 6, none⟩ (.int .i64 (-1))) M (mv.setIfInBounds 7 (.slice (some ⟨g, 0, none⟩) n cap)) 91) := hM2.put n3
  have HF : Hid (Fr B [91, 93, 95] w (((w.setCell ⟨g, n, none⟩ (.pointer none)).setCell ⟨M, 7, none⟩ (.slice (some ⟨g, 0, none⟩) n cap)).setCell ⟨P x, 6, none⟩ (.int .i64 (-1)))) :=
    (((Fr.refl B [91, 93, 95] w).set hg hBg (by decide) _).set hM1 hB (by decide) _).set hx2 hBx (by decide) _
  have HH : Hid (HeapAt (((w.setCell ⟨g, n, none⟩ (.pointer none)).setCell ⟨M, 7, none⟩ (.slice (some ⟨g, 0, none⟩) n cap)).setCell ⟨P x, 6, none⟩ (.int .i64 (-1))) B M P dd fv N (.slice (some ⟨g, 0, none⟩) n cap) (h.take n)) := by
    have hlt : (h.take n).length = n := by rw [List.length_take]; omega
    refine ⟨?_, ?_, ?_⟩
    · refine ⟨by simp, .inr ⟨g, cap, _, by rw [hlt], hBg, (hg2.put (a := ⟨P x, 6, none⟩) (v := .int .i64 (-1)) n2), by rw [hlt]; exact b3, hm, by simp [hs], ?_⟩⟩
      rw [hlt, Nat.mul_one, Array.toList_setIfInBounds, List.take_set, List.set_eq_of_length_le (by rw [List.length_take]; omega), List.map_take, ← ht, List.take_take, hl]
      congr 1
      omega
    · intro i hi
      exact (((H.tim i hi).put hg (by decide) _).put hM1 (by decide) _).set6 _ _
    · intro i hi
      exact H.mem i (List.mem_of_mem_take hi)
  clear H hM hp hg hcell ht hbx hg1 hM1 hM2 hx1 hx2 hg2 hpe hs hx
  go_enter Yba.func114, Yba.ntmps114
  go_wp2_with fail
  go_ret
  exact ⟨rfl, _, HH.out, HM.out, HF.out⟩
end Go.Proofs.Ybulkdask.Hp
