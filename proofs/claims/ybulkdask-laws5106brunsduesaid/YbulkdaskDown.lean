import Derived.Test.YbulkdaskUp
namespace Go.Proofs.Ybulkdask.Ord
theorem min1 {dd : Nat → Nat} {h : List Nat} {n i : Nat} (hn : n ≤ 2 * i + 2) : ∀ k, 0 < k → k < n → (k - 1) / 2 = i → ¬ lt dd (at' h k) (at' h (2 * i + 1)) := by
  intro k h0 hk e
  rw [show k = 2 * i + 1 by omega]
  exact lt_irrefl _ _
theorem min2 {dd : Nat → Nat} {h : List Nat} {n i : Nat} (hl : ¬ lt dd (at' h (2 * i + 2)) (at' h (2 * i + 1))) : ∀ k, 0 < k → k < n → (k - 1) / 2 = i → ¬ lt dd (at' h k) (at' h (2 * i + 1)) := by
  intro k h0 hk e
  rcases (show k = 2 * i + 1 ∨ k = 2 * i + 2 by omega) with rfl | rfl
  · exact lt_irrefl _ _
  · exact hl
theorem min3 {dd : Nat → Nat} {h : List Nat} {n i : Nat} (hl : lt dd (at' h (2 * i + 2)) (at' h (2 * i + 1))) : ∀ k, 0 < k → k < n → (k - 1) / 2 = i → ¬ lt dd (at' h k) (at' h (2 * i + 2)) := by
  intro k h0 hk e
  rcases (show k = 2 * i + 1 ∨ k = 2 * i + 2 by omega) with rfl | rfl
  · exact lt_asymm hl
  · exact lt_irrefl _ _
end Go.Proofs.Ybulkdask.Ord
namespace Go.Proofs.Ybulkdask.Hp
open Go.RowKit Go.Proofs.Ybulkdask.Tm
set_option linter.unusedSimpArgs false
set_option linter.unusedVariables false

set_option maxHeartbeats 1600000 in
set_option maxRecDepth 100000 in
/-- 'heap.down' from the root. -/
theorem down_any (w : World) (B M : Nat) (P dd : Nat → Nat) (fv : Nat → Value) (N : Nat) (pend : Value) (h : List Nat) (n : Nat) (mv : Array Value) (H : HeapAt w B M P dd fv N pend h) (hM : Bk w M mv 91) (hp : mv[7]? = some pend)
    (hnl : n < h.length) (hn : h.length ≤ 1024) (hd : ∀ i, dd i < 1000) (u : Ord.DownInv dd h n 0) :
    Calls Yba.prog 63 #[.iface 97 (.pointer (some ⟨M, 7, none⟩)), .int .i64 0, .int .i64 (n : Int)] w fun e w' => (∃ b, e = .returned (.bool b)) ∧ ∃ h', h'.Perm h ∧ Ord.isHeap dd h' n ∧ Ord.at' h' n = Ord.at' h n ∧ HeapAt w' B M P dd fv N pend h' ∧ Fr B [93, 95] w w' := by
  have HM : Hid (Bk w M mv 91) := hM
  have HP : Hid (mv[7]? = some pend) := hp
  have HD : Hid (∀ i, dd i < 1000) := hd
  have HH : Hid (HeapAt w B M P dd fv N pend h) := H
  have HU : Hid (Ord.DownInv dd h n 0) := u
  have HL : Hid (n < h.length ∧ h.length ≤ 1024) := ⟨hnl, hn⟩
  have hn0 : n < 1024 := by omega
  clear H u hM hp hd hnl hn
  go_enter Yba.func63, Yba.ntmps63
  go_wp2_with fail
  go_loopg [7] n (fun k p wr => ∃ i : Nat, Hid (k = n - i) ∧ i ≤ n ∧ p = .int .i64 (i : Int) ∧ ∃ h', Hid (h'.Perm h) ∧ Hid (Ord.DownInv dd h' n i) ∧ Hid (Ord.at' h' n = Ord.at' h n) ∧ Hid (HeapAt wr B M P dd fv N pend h') ∧ Hid (Fr B [93, 95] w wr))
  case atStart => exact ⟨0, rfl, Nat.zero_le _, rfl, h, List.Perm.refl _, HU.out, rfl, HH.out, Fr.refl _ _ _⟩
  case round =>
    obtain ⟨i, hgk, hi, rfl, h', hperm, hu, hat, hH, hF⟩ := hrel
    have hHL : Hid (n < h'.length ∧ h'.length ≤ 1024) := by rw [show h'.length = h.length from hperm.out.length_eq]; exact HL.out
    have ew1 : IntKind.i64.wrap (2 * (i : Int)) = 2 * (i : Int) := by rw [IntKind.wrap_i64]; omega
    have ew2 : IntKind.i64.wrap (2 * (i : Int) + 1) = 2 * (i : Int) + 1 := by rw [IntKind.wrap_i64]; omega
    have ew3 : IntKind.i64.wrap (2 * (i : Int) + 1 + 1) = 2 * (i : Int) + 1 + 1 := by rw [IntKind.wrap_i64]; omega
    by_cases h1 : n ≤ 2 * i + 1
    · have hge : decide ((n : Int) ≤ 2 * (i : Int) + 1) = true := by simp; omega
      have hgi : (2 * (i : Int) + 1 : Int) ≥ n := by omega
      have H1 : Hid (n ≤ 2 * i + 1) := h1
      clear h1
      go_wp2_with fail
      go_ret
      exact ⟨⟨_, rfl⟩, h', hperm.out, Ord.down_leaf hu.out H1.out, hat.out, hH.out, hF.out⟩
    · have hlt : ¬ ((n : Int) ≤ 2 * (i : Int) + 1) := by omega
      have hlt0 : ¬ (2 * (i : Int) + 1 < 0) := by omega
      have c7 : wr.cell? ⟨M, 7, none⟩ = some pend := (HM.out.fr hF.out (by decide)).cell 7 HP.out
      have hml := m_less c7
      by_cases h2 : 2 * i + 2 < n
      · have hlt2 : (2 * (i : Int) + 1 + 1 : Int) < n := by omega
        go_wp2_with fail
        rw [show (.int .i64 (2 * (i : Int) + 1 + 1) : Value) = .int .i64 ((2 * i + 2 : Nat) : Int) from rfl, show (.int .i64 (2 * (i : Int) + 1) : Value) = .int .i64 ((2 * i + 1 : Nat) : Int) from rfl]
        refine (less_any wr B M P dd fv N pend h' (2 * i + 2) (2 * i + 1) hH.out (by have := hHL.out; omega) (by have := hHL.out; omega) hHL.out.2 HD.out).mono ?_
        rintro e w1 ⟨⟨b, hb, rfl⟩, hbel⟩
        have HB : Hid (b = true ↔ Ord.lt dd (Ord.at' h' (2 * i + 2)) (Ord.at' h' (2 * i + 1))) := hb
        have hF1 : Fr B [93, 95] w w1 := hF.out.below hbel
        have hH1 := hH.out.below hbel
        have d7 : w1.cell? ⟨M, 7, none⟩ = some pend := (HM.out.fr hF1 (by decide)).cell 7 HP.out
        have hml1 := m_less d7
        have HF1 : Hid (Fr B [93, 95] w w1) := hF1
        have HH1 : Hid (HeapAt w1 B M P dd fv N pend h') := hH1
        clear hb hF1 hH1 hbel hF hH hml c7
        cases b with
        | false =>
          have HMIN : Hid (∀ k, 0 < k → k < n → (k - 1) / 2 = i → ¬ Ord.lt dd (Ord.at' h' k) (Ord.at' h' (2 * i + 1))) := Ord.min2 (fun hx => by have := HB.out.2 hx; simp at this)
          go_wp2_with fail
          rw [show (.int .i64 (2 * (i : Int) + 1) : Value) = .int .i64 ((2 * i + 1 : Nat) : Int) from rfl]
          refine (less_any w1 B M P dd fv N pend h' (2 * i + 1) i HH1.out (by have := hHL.out; omega) (by have := hHL.out; omega) hHL.out.2 HD.out).mono ?_
          rintro e w2 ⟨⟨b, hb, rfl⟩, hbel⟩
          have HB2 : Hid (b = true ↔ Ord.lt dd (Ord.at' h' (2 * i + 1)) (Ord.at' h' i)) := hb
          have hF2 : Fr B [93, 95] w w2 := HF1.out.below hbel
          have hH2 := HH1.out.below hbel
          have e7 : w2.cell? ⟨M, 7, none⟩ = some pend := (HM.out.fr hF2 (by decide)).cell 7 HP.out
          have hms := m_swap e7
          have HF2 : Hid (Fr B [93, 95] w w2) := hF2
          have HH2 : Hid (HeapAt w2 B M P dd fv N pend h') := hH2
          clear hb hF2 hH2 hbel HF1 HH1
          cases b with
          | false =>
            go_wp2_with fail
            go_ret
            exact ⟨⟨_, rfl⟩, h', hperm.out, Ord.down_done hu.out HMIN.out (fun hx => by have := HB2.out.2 hx; simp at this), hat.out, HH2.out, HF2.out⟩
          | true =>
            go_wp2_with fail
            rw [show (.int .i64 (2 * (i : Int) + 1) : Value) = .int .i64 ((2 * i + 1 : Nat) : Int) from rfl]
            refine (swap_any w2 B M P dd fv N pend h' i (2 * i + 1) HH2.out (by have := hHL.out; omega) (by have := hHL.out; omega) hHL.out.2).mono ?_
            rintro e w3 ⟨rfl, hH3, hF3⟩
            have HH3 : Hid (HeapAt w3 B M P dd fv N pend (Ord.swap h' i (2 * i + 1))) := hH3
            have HF3 : Hid (Fr B [93, 95] w w3) := HF2.out.trans hF3
            have HLT : Hid (Ord.lt dd (Ord.at' h' (2 * i + 1)) (Ord.at' h' i)) := HB2.out.1 (by first | exact trivial | rfl)
            clear hH3 hF3
            go_wp2_with fail
            go_roundg (n - (2 * i + 1))
            case rel =>
              refine ⟨2 * i + 1, rfl, by omega, rfl, Ord.swap h' i (2 * i + 1), ?_, ?_, ?_, HH3, HF3⟩
              · exact (Ord.swap_perm h' i (2 * i + 1) (by have := hHL.out; omega) (by have := hHL.out; omega)).trans hperm.out
              · exact Ord.down_step hu.out (Nat.le_of_lt hHL.out.1) (by omega) (by omega) (by omega) HMIN.out HLT.out
              · show Ord.at' (Ord.swap h' i (2 * i + 1)) n = _
                rw [Ord.at_swap h' i (2 * i + 1) n (by have := hHL.out; omega) (by have := hHL.out; omega), if_neg (by omega), if_neg (by omega)]
                exact hat.out
            all_goals (have := hgk.out; omega)
        | true =>
          have HMIN : Hid (∀ k, 0 < k → k < n → (k - 1) / 2 = i → ¬ Ord.lt dd (Ord.at' h' k) (Ord.at' h' (2 * i + 2))) := Ord.min3 (HB.out.1 (by first | exact trivial | rfl))
          go_wp2_with fail
          rw [show (.int .i64 (2 * (i : Int) + 2) : Value) = .int .i64 ((2 * i + 2 : Nat) : Int) from rfl]
          refine (less_any w1 B M P dd fv N pend h' (2 * i + 2) i HH1.out (by have := hHL.out; omega) (by have := hHL.out; omega) hHL.out.2 HD.out).mono ?_
          rintro e w2 ⟨⟨b, hb, rfl⟩, hbel⟩
          have HB2 : Hid (b = true ↔ Ord.lt dd (Ord.at' h' (2 * i + 2)) (Ord.at' h' i)) := hb
          have hF2 : Fr B [93, 95] w w2 := HF1.out.below hbel
          have hH2 := HH1.out.below hbel
          have e7 : w2.cell? ⟨M, 7, none⟩ = some pend := (HM.out.fr hF2 (by decide)).cell 7 HP.out
          have hms := m_swap e7
          have HF2 : Hid (Fr B [93, 95] w w2) := hF2
          have HH2 : Hid (HeapAt w2 B M P dd fv N pend h') := hH2
          clear hb hF2 hH2 hbel HF1 HH1
          cases b with
          | false =>
            go_wp2_with fail
            go_ret
            exact ⟨⟨_, rfl⟩, h', hperm.out, Ord.down_done hu.out HMIN.out (fun hx => by have := HB2.out.2 hx; simp at this), hat.out, HH2.out, HF2.out⟩
          | true =>
            go_wp2_with fail
            rw [show (.int .i64 (2 * (i : Int) + 2) : Value) = .int .i64 ((2 * i + 2 : Nat) : Int) from rfl]
            refine (swap_any w2 B M P dd fv N pend h' i (2 * i + 2) HH2.out (by have := hHL.out; omega) (by have := hHL.out; omega) hHL.out.2).mono ?_
            rintro e w3 ⟨rfl, hH3, hF3⟩
            have HH3 : Hid (HeapAt w3 B M P dd fv N pend (Ord.swap h' i (2 * i + 2))) := hH3
            have HF3 : Hid (Fr B [93, 95] w w3) := HF2.out.trans hF3
            have HLT : Hid (Ord.lt dd (Ord.at' h' (2 * i + 2)) (Ord.at' h' i)) := HB2.out.1 (by first | exact trivial | rfl)
            clear hH3 hF3
            go_wp2_with fail
            go_roundg (n - (2 * i + 2))
            case rel =>
              refine ⟨2 * i + 2, rfl, by omega, rfl, Ord.swap h' i (2 * i + 2), ?_, ?_, ?_, HH3, HF3⟩
              · exact (Ord.swap_perm h' i (2 * i + 2) (by have := hHL.out; omega) (by have := hHL.out; omega)).trans hperm.out
              · exact Ord.down_step hu.out (Nat.le_of_lt hHL.out.1) (by omega) (by omega) (by omega) HMIN.out HLT.out
              · show Ord.at' (Ord.swap h' i (2 * i + 2)) n = _
                rw [Ord.at_swap h' i (2 * i + 2) n (by have := hHL.out; omega) (by have := hHL.out; omega), if_neg (by omega), if_neg (by omega)]
                exact hat.out
            all_goals (have := hgk.out; omega)
      · have hlt2 : ¬ ((2 * (i : Int) + 1 + 1 : Int) < n) := by omega
        have HF1 : Hid (Fr B [93, 95] w wr) := hF
        have HH1 : Hid (HeapAt wr B M P dd fv N pend h') := hH
        have HMIN : Hid (∀ k, 0 < k → k < n → (k - 1) / 2 = i → ¬ Ord.lt dd (Ord.at' h' k) (Ord.at' h' (2 * i + 1))) := Ord.min1 (by omega)
        clear hF hH
        go_wp2_with fail
        rw [show (.int .i64 (2 * (i : Int) + 1) : Value) = .int .i64 ((2 * i + 1 : Nat) : Int) from rfl]
        refine (less_any wr B M P dd fv N pend h' (2 * i + 1) i HH1.out (by have := hHL.out; omega) (by have := hHL.out; omega) hHL.out.2 HD.out).mono ?_
        rintro e w2 ⟨⟨b, hb, rfl⟩, hbel⟩
        have HB2 : Hid (b = true ↔ Ord.lt dd (Ord.at' h' (2 * i + 1)) (Ord.at' h' i)) := hb
        have hF2 : Fr B [93, 95] w w2 := HF1.out.below hbel
        have hH2 := HH1.out.below hbel
        have e7 : w2.cell? ⟨M, 7, none⟩ = some pend := (HM.out.fr hF2 (by decide)).cell 7 HP.out
        have hms := m_swap e7
        have HF2 : Hid (Fr B [93, 95] w w2) := hF2
        have HH2 : Hid (HeapAt w2 B M P dd fv N pend h') := hH2
        clear hb hF2 hH2 hbel HF1 HH1
        cases b with
        | false =>
          go_wp2_with fail
          go_ret
          exact ⟨⟨_, rfl⟩, h', hperm.out, Ord.down_done hu.out HMIN.out (fun hx => by have := HB2.out.2 hx; simp at this), hat.out, HH2.out, HF2.out⟩
        | true =>
          go_wp2_with fail
          rw [show (.int .i64 (2 * (i : Int) + 1) : Value) = .int .i64 ((2 * i + 1 : Nat) : Int) from rfl]
          refine (swap_any w2 B M P dd fv N pend h' i (2 * i + 1) HH2.out (by have := hHL.out; omega) (by have := hHL.out; omega) hHL.out.2).mono ?_
          rintro e w3 ⟨rfl, hH3, hF3⟩
          have HH3 : Hid (HeapAt w3 B M P dd fv N pend (Ord.swap h' i (2 * i + 1))) := hH3
          have HF3 : Hid (Fr B [93, 95] w w3) := HF2.out.trans hF3
          have HLT : Hid (Ord.lt dd (Ord.at' h' (2 * i + 1)) (Ord.at' h' i)) := HB2.out.1 (by first | exact trivial | rfl)
          clear hH3 hF3
          go_wp2_with fail
          go_roundg (n - (2 * i + 1))
          case rel =>
            refine ⟨2 * i + 1, rfl, by omega, rfl, Ord.swap h' i (2 * i + 1), ?_, ?_, ?_, HH3, HF3⟩
            · exact (Ord.swap_perm h' i (2 * i + 1) (by have := hHL.out; omega) (by have := hHL.out; omega)).trans hperm.out
            · exact Ord.down_step hu.out (Nat.le_of_lt hHL.out.1) (by omega) (by omega) (by omega) HMIN.out HLT.out
            · show Ord.at' (Ord.swap h' i (2 * i + 1)) n = _
              rw [Ord.at_swap h' i (2 * i + 1) n (by have := hHL.out; omega) (by have := hHL.out; omega), if_neg (by omega), if_neg (by omega)]
              exact hat.out
          all_goals (have := hgk.out; omega)
end Go.Proofs.Ybulkdask.Hp
