import Derived.Test.YbulkdaskAdvA
namespace Go.Proofs.Ybulkdask.Hp
open Go.RowKit Go.Proofs.Ybulkdask.Tm Go.Proofs.Ybulkdask.Clk Go.Proofs.Ybulkdask.Lk
set_option linter.unusedSimpArgs false
set_option linter.unusedVariables false

set_option maxHeartbeats 3200000 in
set_option maxRecDepth 100000 in
/-- '(*Manual).Advance'. -/
theorem advance_any (w : World) (B M Lg V Bs Ph : Nat) (P Kb dd : Nat → Nat) (N : Nat) (nw D : Nat) (pend : Value) (h srt : List Nat) (l : List (Nat × Int)) (ph : Int) (s : St w B M Lg V Bs Ph P Kb dd N 0 0 (nw : Int) pend h l ph)
    (hs : srt.Pairwise (Ord.lt dd)) (hperm : h.Perm srt) (hnow : ∀ x ∈ srt, nw ≤ dd x) (hT : nw + D < 2000) (hll : l.length + srt.length ≤ 1024) (hd : ∀ i, dd i < 1000) (hBw : B ≤ w.heap.size) :
    Calls Yba.prog 11 #[.pointer (some ⟨M, 0, none⟩), .int .i64 (D : Int)] w fun e w' => e = .returned (.tuple #[]) ∧ ∃ a b pend' h', srt = a ++ b ∧ (∀ x ∈ a, dd x ≤ nw + D) ∧ (∀ x ∈ b, nw + D < dd x) ∧ h'.Perm b ∧ St w' B M Lg V Bs Ph P Kb dd N 0 0 ((nw + D : Nat) : Int) pend' h' (l ++ a.map (fun x => (x, ph))) ph ∧ Fr B [91, 93, 95, 30, 39] w w' := by
  obtain ⟨W, hW⟩ : ∃ W, W = (w.setCell ⟨M, 0, none⟩ (.int .i32 1)).setCell ⟨M, 2, none⟩ (.int .i32 1) := ⟨_, rfl⟩
  have s1 : St (w.setCell ⟨M, 0, none⟩ (.int .i32 1)) B M Lg V Bs Ph P Kb dd N 1 0 (nw : Int) pend h l ph := s.set 0 _ rfl
  have s2 : St W B M Lg V Bs Ph P Kb dd N 1 1 (nw : Int) pend h l ph := by rw [hW]; exact s1.set 2 _ rfl
  have fW : Fr B [91, 93, 95, 30, 39] w W := by rw [hW]; exact ((Fr.refl _ _ _).set s.Mb s.bM (by decide) _).set s1.Mb s1.bM (by decide) _
  have HL1 : Hid (Calls Yba.prog 18 #[.pointer (some ⟨M, 0, none⟩)] w fun e w' => e = .returned (.tuple #[]) ∧ w' = w.setCell ⟨M, 0, none⟩ (.int .i32 1)) := lock _ _ (s.Mb.cell 0 rfl) (s.Mb.free 0)
  have HL2 : Hid (Calls Yba.prog 18 #[.pointer (some ⟨M, 2, none⟩)] (w.setCell ⟨M, 0, none⟩ (.int .i32 1)) fun e w' => e = .returned (.tuple #[]) ∧ w' = (w.setCell ⟨M, 0, none⟩ (.int .i32 1)).setCell ⟨M, 2, none⟩ (.int .i32 1)) := lock _ _ (s1.Mb.cell 2 rfl) (s1.Mb.free 2)
  obtain ⟨d, hde⟩ : ∃ d : Int, d = (D : Int) := ⟨_, rfl⟩
  obtain ⟨m, hme⟩ : ∃ m : Int, m = (nw : Int) := ⟨_, rfl⟩
  have hd0 : ¬ (d < 0) := by omega
  have hm0 : 0 ≤ m := by omega
  have hmd : m + d < 2000 := by omega
  have c4 : W.cell? ⟨M, 4, none⟩ = some (.int .u64 m) := by rw [hme]; exact s2.Mb.cell 4 rfl
  have c5 : W.cell? ⟨M, 5, none⟩ = some (.int .i64 0) := s2.Mb.cell 5 rfl
  have c6 : W.cell? ⟨M, 6, none⟩ = some (.pointer none) := s2.Mb.cell 6 rfl
  have HADD : Hid (Calls Yba.prog 12 #[.agg #[.int .u64 m, .int .i64 0, .pointer none], .int .i64 d] W fun e w' => e = .returned (.agg #[.int .u64 (m + d), .int .i64 0, .pointer none]) ∧ Below W.heap.size W w') := by
    have := add_pos m 0 d W hm0 (by omega) (by decide) (by decide) (by omega) (by omega)
    rw [show (m + d) % 1000000000 = m + d by omega, show (0 : Int) + (m + d) / 1000000000 = 0 by omega] at this
    exact this
  have HAT : Hid (∀ w', Below W.heap.size W w' → Calls Yba.prog 26 #[.pointer (some ⟨M, 0, none⟩), .agg #[.int .u64 (m + d), .int .i64 0, .pointer none]] w' fun e w'' => e = .returned (.tuple #[]) ∧ ∃ a b pend' h', srt = a ++ b ∧ (∀ x ∈ a, dd x ≤ nw + D) ∧ (∀ x ∈ b, nw + D < dd x) ∧ h'.Perm b ∧ St w'' B M Lg V Bs Ph P Kb dd N 1 0 ((nw + D : Nat) : Int) pend' h' (l ++ a.map (fun x => (x, ph))) ph ∧ Fr B [91, 93, 95, 30, 39] w' w'') := by
    show ∀ w', _
    intro w' hB
    have := advanceTo_any w' B M Lg V Bs Ph P Kb dd N 1 nw (nw + D) pend h srt l ph (s2.below hB) hs hperm hnow hT (by omega) hll hd (Nat.le_trans hBw (Nat.le_trans fW.size hB.size))
    rw [show ((nw + D : Nat) : Int) = m + d by omega] at this ⊢
    exact this
  have HFW : Hid (Fr B [91, 93, 95, 30, 39] w W) := fW
  clear s s1 s2 fW hs hperm hnow hT hll hd
  rw [← hde]
  clear hde hme
  go_enter_defers Yba.func11, Yba.ntmps11
  go_wp2_with fail
  refine HL1.out.mono ?_
  rintro e w' ⟨rfl, rfl⟩
  go_wp2_with fail
  refine HL2.out.mono ?_
  rintro e w' ⟨rfl, hw'⟩
  rw [hw', ← hW]
  clear hw' hW HL1 HL2
  go_wp2_with fail
  refine HADD.out.mono ?_
  rintro e w' ⟨rfl, hB⟩
  have HB : Hid (Below W.heap.size W w') := hB
  clear hB HADD
  go_wp2_with fail
  refine (HAT.out w' HB.out).mono ?_
  rintro e w2 ⟨rfl, a, b, pend', h', e1, e2, e3, e4, s3, f3⟩
  have HR : Hid (srt = a ++ b ∧ (∀ x ∈ a, dd x ≤ nw + D) ∧ (∀ x ∈ b, nw + D < dd x) ∧ h'.Perm b) := ⟨e1, e2, e3, e4⟩
  have HS3 : Hid (St w2 B M Lg V Bs Ph P Kb dd N 1 0 ((nw + D : Nat) : Int) pend' h' (l ++ a.map (fun x => (x, ph))) ph) := s3
  have HF3 : Hid (Fr B [91, 93, 95, 30, 39] w w2) := (HFW.out.below HB.out).trans f3
  clear e1 e2 e3 e4 s3 f3 HAT c4 c5 c6 HFW
  go_wp2_with fail
  refine leaves_cons (f := 19) (args := #[.pointer (some ⟨M, 0, none⟩)]) (by simp) (by simp [go_sem]) ?_
  refine (unlockD _ _ _ (HS3.out.Mb.cell 0 rfl) (HS3.out.Mb.free 0)).mono ?_
  rintro e u' w'' ⟨rfl, rfl, rfl⟩
  exact ⟨_, results_none rfl _ _ _, rfl, a, b, pend', h', HR.out.1, HR.out.2.1, HR.out.2.2.1, HR.out.2.2.2, HS3.out.set 0 _ rfl, HF3.out.set HS3.out.Mb HS3.out.bM (by decide) _⟩

/-- The clamp. -/
theorem clamp_any (z : Int) (w : World) (h0 : 0 ≤ z) (h1 : z < 65536) : Calls Yba.prog 7 #[.int .u16 z] w fun e w' => e = .returned (.int .i64 (z % 1000)) ∧ w' = w := by
  have e1 : z.tmod 1000 = z % 1000 := by rw [Int.tmod_eq_emod_of_nonneg h0]
  have e2 : 0 ≤ z % 1000 := by omega
  have e3 : z % 1000 < 1000 := by omega
  go_enter Yba.func7, Yba.ntmps7
  go_wp2_with fail
  go_ret
  exact ⟨rfl, rfl⟩
end Go.Proofs.Ybulkdask.Hp
