import Derived.Test.YbulkdaskSwap
import Derived.Deep.LoopGhost
namespace Go.Proofs.Ybulkdask.Hp
open Go.RowKit Go.Proofs.Ybulkdask.Tm
set_option linter.unusedSimpArgs false
set_option linter.unusedVariables false

theorem m_less0 (a : Addr) (w : World) : (method 283 97 (.pointer (some a)) "Less").run Yba.prog w = match w.cell? a with
    | some v => .ok (110, v) w
    | none => match w.farLoad Yba.prog a (Mode.plain == .atomic) with
      | .ok (v, _) => .ok (110, v) w
      | .error h => .halt h w := by kernel_rfl
theorem m_less {a : Addr} {w : World} {v : Value} (h : w.cell? a = some v) : (method 283 97 (.pointer (some a)) "Less").run Yba.prog w = .ok (110, v) w := by rw [m_less0, h]
theorem m_swap0 (a : Addr) (w : World) : (method 283 97 (.pointer (some a)) "Swap").run Yba.prog w = match w.cell? a with
    | some v => .ok (111, v) w
    | none => match w.farLoad Yba.prog a (Mode.plain == .atomic) with
      | .ok (v, _) => .ok (111, v) w
      | .error h => .halt h w := by kernel_rfl
theorem m_swap {a : Addr} {w : World} {v : Value} (h : w.cell? a = some v) : (method 283 97 (.pointer (some a)) "Swap").run Yba.prog w = .ok (111, v) w := by rw [m_swap0, h]
theorem m_len0 (a : Addr) (w : World) : (method 283 97 (.pointer (some a)) "Len").run Yba.prog w = match w.cell? a with
    | some v => .ok (109, v) w
    | none => match w.farLoad Yba.prog a (Mode.plain == .atomic) with
      | .ok (v, _) => .ok (109, v) w
      | .error h => .halt h w := by kernel_rfl
theorem m_len {a : Addr} {w : World} {v : Value} (h : w.cell? a = some v) : (method 283 97 (.pointer (some a)) "Len").run Yba.prog w = .ok (109, v) w := by rw [m_len0, h]
theorem m_push (a : Addr) (w : World) : (method 283 97 (.pointer (some a)) "Push").run Yba.prog w = .ok (115, .pointer (some a)) w := by kernel_rfl
theorem m_pop (a : Addr) (w : World) : (method 283 97 (.pointer (some a)) "Pop").run Yba.prog w = .ok (114, .pointer (some a)) w := by kernel_rfl

set_option maxHeartbeats 1600000 in
set_option maxRecDepth 100000 in
/-- 'heap.up'. -/
theorem up_any (w : World) (B M : Nat) (P dd : Nat → Nat) (fv : Nat → Value) (N : Nat) (pend : Value) (h : List Nat) (j : Nat) (mv : Array Value) (H : HeapAt w B M P dd fv N pend h) (hM : Bk w M mv 91) (hp : mv[7]? = some pend)
    (hj : j < h.length) (hn : h.length ≤ 1024) (hd : ∀ i, dd i < 1000) (u : Ord.UpInv dd h h.length j) :
    Calls Yba.prog 35 #[.iface 97 (.pointer (some ⟨M, 7, none⟩)), .int .i64 (j : Int)] w fun e w' => e = .returned (.tuple #[]) ∧ ∃ h', h'.Perm h ∧ Ord.isHeap dd h' h.length ∧ HeapAt w' B M P dd fv N pend h' ∧ Fr B [93, 95] w w' := by
  have HM : Hid (Bk w M mv 91) := hM
  have HP : Hid (mv[7]? = some pend) := hp
  have HD : Hid (∀ i, dd i < 1000) := hd
  have HH : Hid (HeapAt w B M P dd fv N pend h) := H
  have HU : Hid (Ord.UpInv dd h h.length j) := u
  obtain ⟨n, hln⟩ : ∃ n, n = h.length := ⟨_, rfl⟩
  have HL : Hid (n = h.length) := hln
  rw [← hln] at hj hn
  clear H u hM hp hd hln
  go_enter Yba.func35, Yba.ntmps35
  go_wp2_with fail
  go_loopg [1] j (fun k p wr => k < n ∧ p = .int .i64 (k : Int) ∧ ∃ h', Hid (h'.Perm h) ∧ Hid (Ord.UpInv dd h' h.length k) ∧ Hid (HeapAt wr B M P dd fv N pend h') ∧ Hid (Fr B [93, 95] w wr))
  case atStart => exact ⟨hj, rfl, h, List.Perm.refl _, HU.out, HH.out, Fr.refl _ _ _⟩
  case round =>
    obtain ⟨hk, rfl, h', hperm, hu, hH, hF⟩ := hrel
    have hl := hperm.out.length_eq
    have hHL : Hid (h'.length = n) := by rw [hl]; exact HL.out.symm
    clear hl
    by_cases h0 : gk = 0
    · subst h0
      go_wp2_with fail
      refine bodyPost_end (results_none rfl _ _ _) rfl ⟨rfl, h', hperm.out, Ord.up_done hu.out (.inl rfl), hH.out, hF.out⟩
    · have hpar : ((gk : Int) - 1).tdiv 2 = (((gk - 1) / 2 : Nat) : Int) := by
        rw [Int.tdiv_eq_ediv_of_nonneg (by omega)]
        omega
      have hw1 : IntKind.i64.wrap ((gk : Int) - 1) = (gk : Int) - 1 := by rw [IntKind.wrap_i64]; omega
      obtain ⟨p, hpe⟩ : ∃ p, p = (gk - 1) / 2 := ⟨_, rfl⟩
      rw [← hpe] at hpar
      have hpk : p < gk := by omega
      have hne : ((p : Int) == (gk : Int)) = false := by simp; omega
      have HPE : Hid (p = (gk - 1) / 2) := hpe
      have H0 : Hid (gk ≠ 0) := h0
      have c7 : wr.cell? ⟨M, 7, none⟩ = some pend := (HM.out.fr hF.out (by decide)).cell 7 HP.out
      have hml := m_less c7
      clear h0 hpe
      go_wp2_with fail
      refine (less_any wr B M P dd fv N pend h' gk p hH.out (by have := hHL.out; omega) (by have := hHL.out; omega) (by have := hHL.out; omega) HD.out).mono ?_
      rintro e w1 ⟨⟨b, hb, rfl⟩, hbel⟩
      have HB : Hid (b = true ↔ Ord.lt dd (Ord.at' h' gk) (Ord.at' h' p)) := hb
      have hF1 : Fr B [93, 95] w w1 := hF.out.below hbel
      have hH1 := hH.out.below hbel
      have d7 : w1.cell? ⟨M, 7, none⟩ = some pend := (HM.out.fr hF1 (by decide)).cell 7 HP.out
      have hms := m_swap d7
      have HF1 : Hid (Fr B [93, 95] w w1) := hF1
      have HH1 : Hid (HeapAt w1 B M P dd fv N pend h') := hH1
      clear hb hF1 hH1 hbel hF hH
      cases b with
      | false =>
        go_wp2_with fail
        refine bodyPost_end (results_none rfl _ _ _) rfl ⟨rfl, h', hperm.out, Ord.up_done hu.out (.inr ?_), HH1.out, HF1.out⟩
        rw [← HPE.out, ← HB.out]
        simp
      | true =>
        go_wp2_with fail
        refine (swap_any w1 B M P dd fv N pend h' p gk HH1.out (by have := hHL.out; omega) (by have := hHL.out; omega) (by have := hHL.out; omega)).mono ?_
        rintro e w2 ⟨rfl, hH2, hF2⟩
        have HH2 : Hid (HeapAt w2 B M P dd fv N pend (Ord.swap h' p gk)) := hH2
        have HF2 : Hid (Fr B [93, 95] w w2) := HF1.out.trans hF2
        clear hH2 hF2
        go_wp2_with fail
        go_roundg p
        case rel =>
          refine ⟨by omega, rfl, Ord.swap h' p gk, ?_, ?_, HH2, HF2⟩
          · exact (Ord.swap_perm h' p gk (by have := hHL.out; omega) (by have := hHL.out; omega)).trans hperm.out
          · have h1 := hu.out
            have h2 := HB.out.1 trivial
            have h3 := hHL.out
            have h4 := H0.out
            have h5 := HL.out
            rw [HPE.out] at h2 ⊢
            exact Ord.up_step h1 (by omega) (by omega) (by omega) h2
        all_goals omega
end Go.Proofs.Ybulkdask.Hp
