import Derived.Test.YbulkdaskPop
namespace Go.Proofs.Ybulkdask.Ord
theorem down_start {dd : Nat → Nat} {h : List Nat} {n : Nat} (hl : h.length = n + 1) (hh : isHeap dd h h.length) : DownInv dd (swap h 0 n) n 0 := by
  refine ⟨?_, fun k _ _ _ h0 => absurd h0 (by omega)⟩
  intro k h0 hk hne
  rw [at_swap h 0 n k (by omega) (by omega), at_swap h 0 n ((k - 1) / 2) (by omega) (by omega), if_neg (by omega), if_neg (by omega), if_neg (by omega), if_neg (by omega)]
  exact hh k h0 (by omega)
theorem take_last {h : List Nat} {n : Nat} (hl : h.length = n + 1) : h = h.take n ++ [at' h n] := by
  rw [at_lt h n (by omega)]
  have := List.take_append_drop n h
  rw [List.drop_eq_getElem_cons (by omega), List.drop_of_length_le (by omega)] at this
  exact this.symm
theorem heap_take {dd : Nat → Nat} {h : List Nat} {n : Nat} (hh : isHeap dd h n) (hl : n ≤ h.length) : isHeap dd (h.take n) (h.take n).length := by
  have hlen : (h.take n).length = n := by rw [List.length_take]; omega
  rw [hlen]
  intro k h0 hk
  have e : ∀ j, j < n → at' (h.take n) j = at' h j := by
    intro j hj
    simp only [at', List.getD_eq_getElem?_getD]
    rw [List.getElem?_take, if_pos hj]
  rw [e k hk, e ((k - 1) / 2) (by omega)]
  exact hh k h0 hk
end Go.Proofs.Ybulkdask.Ord
namespace Go.Proofs.Ybulkdask.Hp
open Go.RowKit Go.Proofs.Ybulkdask.Tm Go.Proofs.Ybulkdask.Clk
set_option linter.unusedSimpArgs false
set_option linter.unusedVariables false

set_option maxHeartbeats 1600000 in
set_option maxRecDepth 100000 in
/-- 'heap.Pop'. -/
theorem pop_any (w : World) (B M : Nat) (P dd : Nat → Nat) (fv : Nat → Value) (N : Nat) (pend : Value) (h : List Nat) (mv : Array Value) (H : HeapAt w B M P dd fv N pend h) (hM : Bk w M mv 91) (hp : mv[7]? = some pend)
    (h0 : 0 < h.length) (hn : h.length ≤ 1024) (hB : B ≤ M) (hd : ∀ i, dd i < 1000) (hh : Ord.isHeap dd h h.length) :
    Calls Yba.prog 38 #[.iface 97 (.pointer (some ⟨M, 7, none⟩))] w fun e w' => e = .returned (.iface 93 (ptr P (Ord.at' h 0))) ∧ ∃ pend' h', (Ord.at' h 0 :: h').Perm h ∧ Ord.isHeap dd h' h'.length ∧ HeapAt w' B M P dd fv N pend' h' ∧ Bk w' M (mv.setIfInBounds 7 pend') 91 ∧ Fr B [91, 93, 95] w w' := by
  obtain ⟨n, hnl⟩ : ∃ n, h.length = n + 1 := ⟨h.length - 1, by omega⟩
  obtain ⟨a, cap, hpe⟩ := own_slice H.own
  rw [hnl] at hpe
  subst hpe
  have c7 : w.cell? ⟨M, 7, none⟩ = some (.slice a (n + 1) cap) := hM.cell 7 hp
  have hln := m_len c7
  have hsw := m_swap c7
  have hn1 : n < 1024 := by omega
  have hw1 : IntKind.i64.wrap ((n : Int) + 1 - 1) = (n : Int) := by rw [IntKind.wrap_i64]; omega
  have HH : Hid (HeapAt w B M P dd fv N (.slice a (n + 1) cap) h) := H
  have HM : Hid (Bk w M mv 91) := hM
  have HP : Hid (mv[7]? = some (.slice a (n + 1) cap)) := hp
  have HL : Hid (h.length = n + 1) := hnl
  have HD : Hid (∀ i, dd i < 1000) := hd
  have HHH : Hid (Ord.isHeap dd h h.length) := hh
  clear H hM hp hnl hd hh h0 hn
  go_enter Yba.func38, Yba.ntmps38
  go_wp2_with fail
  refine (len a (n + 1) cap w).mono ?_
  rintro e w' ⟨rfl, hw'⟩
  rw [hw']
  clear hw'
  go_wp2_with fail
  refine (swap_any w B M P dd fv N _ h 0 n HH.out (by have := HL.out; omega) (by have := HL.out; omega) (by have := HL.out; omega)).mono ?_
  rintro e w1 ⟨rfl, hH1, hF1⟩
  have HH1 : Hid (HeapAt w1 B M P dd fv N (.slice a (n + 1) cap) (Ord.swap h 0 n)) := hH1
  have HF1 : Hid (Fr B [93, 95] w w1) := hF1
  clear hH1 hF1
  go_wp2_with fail
  refine (down_any w1 B M P dd fv N _ (Ord.swap h 0 n) n mv HH1.out (HM.out.fr HF1.out (by decide)) HP.out (by rw [Ord.len_swap]; have := HL.out; omega) (by rw [Ord.len_swap]; have := HL.out; omega) HD.out (Ord.down_start HL.out HHH.out)).mono ?_
  rintro e w2 ⟨⟨b, rfl⟩, h2, hperm, hheap, hat, hH2, hF2⟩
  have hF12 : Fr B [93, 95] w w2 := HF1.out.trans hF2
  have hM2 : Bk w2 M mv 91 := HM.out.fr hF12 (by decide)
  have hl2 : h2.length = n + 1 := by rw [hperm.length_eq, Ord.len_swap]; exact HL.out
  have hat2 : Ord.at' h2 n = Ord.at' h 0 := by
    rw [hat, Ord.at_swap h 0 n n (by have := HL.out; omega) (by have := HL.out; omega), if_pos rfl]
  have HF2 : Hid (Fr B [93, 95] w w2) := hF12
  have HH2 : Hid (HeapAt w2 B M P dd fv N (.slice a (n + 1) cap) h2) := hH2
  have HM2 : Hid (Bk w2 M mv 91) := hM2
  have HL2 : Hid (h2.length = n + 1) := hl2
  have HP2 : Hid (h2.Perm h) := hperm.trans (Ord.swap_perm h 0 n (by have := HL.out; omega) (by have := HL.out; omega))
  have HHE : Hid (Ord.isHeap dd h2 n) := hheap
  have HAT : Hid (Ord.at' h2 n = Ord.at' h 0) := hat2
  have hpp := m_pop ⟨M, 7, none⟩ w2
  clear hperm hheap hat hH2 hF2 hF12 hM2 hl2 hat2 HH1 HF1
  go_wp2_with fail
  refine (mpop w2 B M P dd fv N _ h2 n mv HH2.out HM2.out HP.out HL2.out hn1 hB).mono ?_
  rintro e w3 ⟨rfl, pend', hH3, hM3, hF3⟩
  rw [HAT.out, show ptr P (Ord.at' h 0) = .pointer (some ⟨P (Ord.at' h 0), 0, none⟩) from rfl]
  go_wp2_with fail
  go_ret
  refine ⟨rfl, pend', h2.take n, ?_, Ord.heap_take HHE.out (by have := HL2.out; omega), hH3, hM3, (HF2.out.mono (Nat.le_refl _) (by simp)).trans hF3⟩
  refine List.Perm.trans ?_ HP2.out
  have e := Ord.take_last HL2.out
  rw [HAT.out] at e
  exact (List.perm_append_singleton _ _).symm.trans (List.Perm.of_eq e.symm)
#print axioms pop_any
end Go.Proofs.Ybulkdask.Hp
