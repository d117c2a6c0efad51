import Derived.Test.YbulkdaskPush
namespace Go.Proofs.Ybulkdask.Hp
open Go.RowKit Go.Proofs.Ybulkdask.Tm Go.Proofs.Ybulkdask.Clk
set_option linter.unusedSimpArgs false
set_option linter.unusedVariables false

set_option maxHeartbeats 1600000 in
set_option maxRecDepth 100000 in
/-- 'heap.Push'. -/
theorem push_any (w : World) (B M : Nat) (P dd : Nat → Nat) (fv : Nat → Value) (N : Nat) (pend : Value) (h : List Nat) (x : Nat) (mv : Array Value) (H : HeapAt w B M P dd fv N pend h) (hM : Bk w M mv 91) (hp : mv[7]? = some pend)
    (hx : x < N) (hn : h.length < 1024) (hB : B ≤ M) (hBw : B ≤ w.heap.size) (hd : ∀ i, dd i < 1000) (hh : Ord.isHeap dd h h.length) :
    Calls Yba.prog 20 #[.iface 97 (.pointer (some ⟨M, 7, none⟩)), .iface 93 (ptr P x)] w fun e w' => e = .returned (.tuple #[]) ∧ ∃ pend' h', h'.Perm (x :: h) ∧ Ord.isHeap dd h' h'.length ∧ HeapAt w' B M P dd fv N pend' h' ∧ Bk w' M (mv.setIfInBounds 7 pend') 91 ∧ Fr B [91, 93, 95] w w' := by
  have HP := mpush w B M P dd fv N pend h x mv H hM hp hx hn hB hBw
  have hpx : ptr P x = .pointer (some ⟨P x, 0, none⟩) := rfl
  rw [hpx] at HP ⊢
  have hms : 7 < mv.size := by
    rcases Nat.lt_or_ge 7 mv.size with h' | h'
    · exact h'
    · rw [Array.getElem?_eq_none h'] at hp; cases hp
  have HHP : Hid (Calls Yba.prog 115 #[.pointer (some ⟨M, 7, none⟩), .iface 93 (.pointer (some ⟨P x, 0, none⟩))] w fun e w' => e = .returned (.tuple #[]) ∧ ∃ pend', HeapAt w' B M P dd fv N pend' (h ++ [x]) ∧ Bk w' M (mv.setIfInBounds 7 pend') 91 ∧ Fr B [91, 93, 95] w w') := HP
  have hmp := m_push ⟨M, 7, none⟩ w
  have HD : Hid (∀ i, dd i < 1000) := hd
  have HHH : Hid (Ord.isHeap dd h h.length) := hh
  have HN : Hid (h.length < 1024) := hn
  have HMS : Hid (7 < mv.size) := hms
  clear HP hM H hd hh hn hms hpx hp
  go_enter Yba.func20, Yba.ntmps20
  go_wp2_with fail
  refine HHP.out.mono ?_
  rintro e w1 ⟨rfl, pend', hH1, hM1, hF1⟩
  obtain ⟨a, cap, hpe⟩ := own_slice hH1.own
  have hl1 : (h ++ [x]).length = h.length + 1 := by simp
  obtain ⟨n, hnl⟩ : ∃ n, n = h.length := ⟨_, rfl⟩
  rw [hl1, ← hnl] at hpe
  subst hpe
  have hp1 : (mv.setIfInBounds 7 (.slice a (n + 1) cap))[7]? = some (.slice a (n + 1) cap) := by simp [HMS.out]
  have d7 : w1.cell? ⟨M, 7, none⟩ = some (.slice a (n + 1) cap) := hM1.cell 7 hp1
  have hln := m_len d7
  have HH1 : Hid (HeapAt w1 B M P dd fv N (.slice a (n + 1) cap) (h ++ [x])) := hH1
  have HM1 : Hid (Bk w1 M (mv.setIfInBounds 7 (.slice a (n + 1) cap)) 91) := hM1
  have HF1 : Hid (Fr B [91, 93, 95] w w1) := hF1
  have HP1 : Hid ((mv.setIfInBounds 7 (.slice a (n + 1) cap))[7]? = some (.slice a (n + 1) cap)) := hp1
  have HNL : Hid (n = h.length) := hnl
  have hn1 : n < 1024 := by rw [hnl]; exact HN.out
  have hw1 : IntKind.i64.wrap ((n : Int) + 1 - 1) = (n : Int) := by rw [IntKind.wrap_i64]; omega
  have HL1 : Hid ((h ++ [x]).length = h.length + 1) := hl1
  clear hl1 hH1 hM1 hF1 hp1 hnl HHP hmp
  go_wp2_with fail
  refine (len a (n + 1) cap w1).mono ?_
  rintro e w' ⟨rfl, hw'⟩
  rw [hw']
  clear hw'
  go_wp2_with fail
  have hUI : Ord.UpInv dd (h ++ [x]) (h ++ [x]).length n := by
    rw [HL1.out, HNL.out]
    refine ⟨?_, ?_⟩
    · intro k h0 hk hne
      have e1 : Ord.at' (h ++ [x]) k = Ord.at' h k := by
        simp only [Ord.at', List.getD_eq_getElem?_getD]
        rw [List.getElem?_append_left (by omega)]
      have e2 : Ord.at' (h ++ [x]) ((k - 1) / 2) = Ord.at' h ((k - 1) / 2) := by
        simp only [Ord.at', List.getD_eq_getElem?_getD]
        rw [List.getElem?_append_left (by omega)]
      rw [e1, e2]
      exact HHH.out k h0 (by omega)
    · intro k h0 hk he hj
      omega
  refine (up_any w1 B M P dd fv N _ (h ++ [x]) n _ HH1.out HM1.out HP1.out (by rw [HL1.out, ← HNL.out]; omega) (by rw [HL1.out, ← HNL.out]; omega) HD.out hUI).mono ?_
  rintro e w2 ⟨rfl, h', hperm, hheap, hH2, hF2⟩
  go_wp2_with fail
  refine bodyPost_end (results_none rfl _ _ _) rfl ⟨rfl, _, h', ?_, ?_, hH2, HM1.out.fr hF2 (by decide), HF1.out.trans (hF2.mono (Nat.le_refl _) (by simp))⟩
  · exact hperm.trans (List.perm_append_singleton x h)
  · rw [hperm.length_eq]; exact hheap
end Go.Proofs.Ybulkdask.Hp
