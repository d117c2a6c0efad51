import Derived.Test.YbulkdaskSt
namespace Go.Proofs.Ybulkdask.Ord
/-- The root of a heap is the least of a sorted list of the same numbers. -/
theorem root_head {dd : Nat → Nat} {h b : List Nat} {x : Nat} (hp : isHeap dd h h.length) (hs : (x :: b).Pairwise (lt dd)) (hperm : h.Perm (x :: b)) : at' h 0 = x := by
  have hl : 0 < h.length := by rw [hperm.length_eq]; simp
  have h1 : at' h 0 ∈ x :: b := hperm.mem_iff.1 (at_mem h 0 hl)
  rcases List.mem_cons.1 h1 with e | e
  · exact e
  · exfalso
    have h2 : lt dd x (at' h 0) := List.rel_of_pairwise_cons hs e
    have h3 : x ∈ h := hperm.mem_iff.2 (by simp)
    obtain ⟨k, hk, e2⟩ := List.getElem_of_mem h3
    have h4 := root_min hp k hk
    rw [at_lt h k hk, e2] at h4
    exact h4 h2
end Go.Proofs.Ybulkdask.Ord
namespace Go.Proofs.Ybulkdask.Hp
open Go.RowKit Go.Proofs.Ybulkdask.Tm Go.Proofs.Ybulkdask.Clk Go.Proofs.Ybulkdask.Lk
set_option linter.unusedSimpArgs false
set_option linter.unusedVariables false

set_option maxHeartbeats 3200000 in
set_option maxRecDepth 100000 in
/-- '(*Manual).advanceTo'. -/
theorem advanceTo_any (w : World) (B M Lg V Bs Ph : Nat) (P Kb dd : Nat → Nat) (N : Nat) (adv : Int) (nw T : Nat) (pend : Value) (h srt : List Nat) (l : List (Nat × Int)) (ph : Int) (s : St w B M Lg V Bs Ph P Kb dd N adv 1 (nw : Int) pend h l ph)
    (hs : srt.Pairwise (Ord.lt dd)) (hperm : h.Perm srt) (hnow : ∀ x ∈ srt, nw ≤ dd x) (hT : T < 2000) (hnT : nw ≤ T) (hll : l.length + srt.length ≤ 1024) (hd : ∀ i, dd i < 1000) (hBw : B ≤ w.heap.size) :
    Calls Yba.prog 26 #[.pointer (some ⟨M, 0, none⟩), .agg #[.int .u64 (T : Int), .int .i64 0, .pointer none]] w fun e w' => e = .returned (.tuple #[]) ∧ ∃ a b pend' h', srt = a ++ b ∧ (∀ x ∈ a, dd x ≤ T) ∧ (∀ x ∈ b, T < dd x) ∧ h'.Perm b ∧ St w' B M Lg V Bs Ph P Kb dd N adv 0 (T : Int) pend' h' (l ++ a.map (fun x => (x, ph))) ph ∧ Fr B [91, 93, 95, 30, 39] w w' := by
  obtain ⟨t, ht⟩ : ∃ t : Int, t = (T : Int) := ⟨_, rfl⟩
  rw [← ht]
  have ht0 : 0 ≤ t := by omega
  have ht1 : t < 2000 := by omega
  have HTT : Hid (t = (T : Int)) := ht
  have HS : Hid (St w B M Lg V Bs Ph P Kb dd N adv 1 (nw : Int) pend h l ph) := s
  have HSO : Hid (srt.Pairwise (Ord.lt dd)) := hs
  have HPE : Hid (h.Perm srt) := hperm
  have HNW : Hid (∀ x ∈ srt, nw ≤ dd x) := hnow
  have HLL : Hid (l.length + srt.length ≤ 1024) := hll
  have HNT : Hid (nw ≤ T ∧ T < 2000) := ⟨hnT, hT⟩
  have HD : Hid (∀ i, dd i < 1000) := hd
  have hlt := s.Mb.lt
  clear s hs hperm hnow hll hd ht hnT hT
  go_enter Yba.func26, Yba.ntmps26
  go_wp2_with fail
  go_loopg [] srt.length (fun k wr => ∃ a b pend' h' nw' , Hid (k = b.length) ∧ Hid (srt = a ++ b ∧ (∀ x ∈ a, dd x ≤ T) ∧ h'.Perm b ∧ nw' ≤ T ∧ (∀ x ∈ b, nw' ≤ dd x)) ∧ Hid (St wr B M Lg V Bs Ph P Kb dd N adv 1 (nw' : Int) pend' h' (l ++ a.map (fun x => (x, ph))) ph) ∧ Hid (Fr B [91, 93, 95, 30, 39] w wr) ∧ Hid (Bk wr w.heap.size #[.int .u64 t, .int .i64 0, .pointer none] 27))
  case atStart =>
    refine ⟨[], srt, pend, h, nw, rfl, ⟨rfl, by simp, HPE.out, HNT.out.1, HNW.out⟩, ?_, (Fr.refl _ _ _).alloc _, Bk.new _ _ _⟩
    show St _ _ _ _ _ _ _ _ _ _ _ _ _ _ _ _ _ _
    simpa using HS.out.below ((Below.refl _ _).alloc (Nat.le_refl _) _)
  case round =>
    obtain ⟨a, b, pend', h', nw', hgk, hfac, hst, hfr, htb⟩ := hrel
    have c9 : wr.cell? ⟨M, 9, none⟩ = some (.int .i64 0) := hst.out.Mb.cell 9 rfl
    obtain ⟨W, hW⟩ : ∃ W, W = wr := ⟨_, rfl⟩
    rw [← hW] at hst hfr htb c9 ⊢
    clear hW
    go_wp2_with fail
    go_loopg [] 0 (fun k wq => wq = W)
    case atStart => exact rfl
    case round =>
      rw [hrel]
      clear hrel
      have hne : M ≠ w.heap.size := by omega
      obtain ⟨a0, cap, hpf⟩ := own_slice hst.out.H.own
      have c7 : W.cell? ⟨M, 7, none⟩ = some (.slice a0 h'.length cap) := by rw [← hpf]; exact hst.out.Mb.cell 7 rfl
      cases b with
      | nil =>
        have hh0 : h'.length = 0 := by rw [hfac.out.2.2.1.length_eq]; rfl
        rw [hh0] at c7
        go_upto_region 3 with fail
        go_quiet (fail)
        generalize hX : W.drewN nq = X
        have stX : Hid (St X B M Lg V Bs Ph P Kb dd N adv 1 (nw' : Int) pend' h' (l ++ a.map (fun x => (x, ph))) ph) := by rw [← hX]; exact hst.out.below ⟨rfl, rfl, rfl, Nat.le_refl _, fun _ _ => rfl⟩
        have frX : Hid (Fr B [91, 93, 95, 30, 39] w X) := by rw [← hX]; exact hfr.out.below ⟨rfl, rfl, rfl, Nat.le_refl _, fun _ _ => rfl⟩
        have tbX : Hid (Bk X w.heap.size #[.int .u64 t, .int .i64 0, .pointer none] 27) := by rw [← hX]; exact htb.out
        clear hX hst hfr htb c7 c9 hh0
        have xs4 := ((stX.out.set 4 (.int .u64 t) rfl : St _ B M Lg V Bs Ph P Kb dd N adv 1 t pend' h' (l ++ a.map (fun x => (x, ph))) ph).set 5 (.int .i64 0) rfl : St _ B M Lg V Bs Ph P Kb dd N adv 1 t pend' h' (l ++ a.map (fun x => (x, ph))) ph)
        have xs6 : St (((X.setCell ⟨M, 4, none⟩ (.int .u64 t)).setCell ⟨M, 5, none⟩ (.int .i64 0)).setCell ⟨M, 6, none⟩ (.pointer none)) B M Lg V Bs Ph P Kb dd N adv 1 t pend' h' (l ++ a.map (fun x => (x, ph))) ph := xs4.set 6 (.pointer none) rfl
        have xfr : Fr B [91, 93, 95, 30, 39] w (((X.setCell ⟨M, 4, none⟩ (.int .u64 t)).setCell ⟨M, 5, none⟩ (.int .i64 0)).setCell ⟨M, 6, none⟩ (.pointer none)) := (((frX.out.set stX.out.Mb stX.out.bM (by decide) _).set (stX.out.Mb.set 4 (.int .u64 t)) stX.out.bM (by decide) _).set ((stX.out.Mb.set 4 (.int .u64 t)).set 5 (.int .i64 0)) stX.out.bM (by decide) _)
        have XS : Hid (St (((X.setCell ⟨M, 4, none⟩ (.int .u64 t)).setCell ⟨M, 5, none⟩ (.int .i64 0)).setCell ⟨M, 6, none⟩ (.pointer none)) B M Lg V Bs Ph P Kb dd N adv 1 t pend' h' (l ++ a.map (fun x => (x, ph))) ph) := xs6
        have XF : Hid (Fr B [91, 93, 95, 30, 39] w (((X.setCell ⟨M, 4, none⟩ (.int .u64 t)).setCell ⟨M, 5, none⟩ (.int .i64 0)).setCell ⟨M, 6, none⟩ (.pointer none))) := xfr
        have m4 : X.cell? ⟨M, 4, none⟩ = some (.int .u64 (nw' : Int)) := stX.out.Mb.cell 4 rfl
        have m5 : X.cell? ⟨M, 5, none⟩ = some (.int .i64 0) := stX.out.Mb.cell 5 rfl
        have m6 : X.cell? ⟨M, 6, none⟩ = some (.pointer none) := stX.out.Mb.cell 6 rfl
        have f4 := stX.out.Mb.free 4
        have f5 := stX.out.Mb.free 5
        have f6 := stX.out.Mb.free 6
        have q0 : X.cell? ⟨w.heap.size, 0, none⟩ = some (.int .u64 t) := tbX.out.cell 0 rfl
        have q1 : X.cell? ⟨w.heap.size, 1, none⟩ = some (.int .i64 0) := tbX.out.cell 1 rfl
        have q2 : X.cell? ⟨w.heap.size, 2, none⟩ = some (.pointer none) := tbX.out.cell 2 rfl
        have HU : Hid (Calls Yba.prog 19 #[.pointer (some ⟨M, 2, none⟩)] (((X.setCell ⟨M, 4, none⟩ (.int .u64 t)).setCell ⟨M, 5, none⟩ (.int .i64 0)).setCell ⟨M, 6, none⟩ (.pointer none)) fun e w' => e = .returned (.tuple #[]) ∧ w' = (((X.setCell ⟨M, 4, none⟩ (.int .u64 t)).setCell ⟨M, 5, none⟩ (.int .i64 0)).setCell ⟨M, 6, none⟩ (.pointer none)).setCell ⟨M, 2, none⟩ (.int .i32 0)) := unlock _ _ (xs6.Mb.cell 2 rfl) (xs6.Mb.free 2)
        clear xs4 xs6 xfr
        go_wp2_with fail
        refine HU.out.mono ?_
        rintro e w' ⟨rfl, hw'⟩
        rw [hw']
        clear hw'
        go_wp2_with fail
        refine bodyPost_end (results_none rfl _ _ _) rfl ⟨rfl, a, [], pend', h', hfac.out.1, hfac.out.2.1, by simp, hfac.out.2.2.1, XS.out.set 2 _ rfl, XF.out.set XS.out.Mb XS.out.bM (by decide) _⟩
      | cons x b =>
        have hlen : h'.length = b.length + 1 := by rw [hfac.out.2.2.1.length_eq]; rfl
        have hsb : (x :: b).Pairwise (Ord.lt dd) := by
          have h2 := HSO.out
          rw [hfac.out.1, List.pairwise_append] at h2
          exact h2.2.1
        have hroot : Ord.at' h' 0 = x := Ord.root_head hst.out.hp hsb hfac.out.2.2.1
        have hxN : x < N := by rw [← hroot]; exact hst.out.H.mem _ (Ord.at_mem h' 0 (by omega))
        have HXN : Hid (x < N) := hxN
        obtain ⟨g, cap2, cur, hpe, hBg, hg, hle, hm, hsz, hcell, htk⟩ := hst.out.H.open (by omega)
        obtain ⟨_, ix, hbx⟩ := hst.out.H.tim x hxN
        obtain ⟨d, hde⟩ : ∃ d : Int, d = (dd x : Int) := ⟨_, rfl⟩
        have hd0 : 0 ≤ d := by omega
        have hd1 : d < 1000 := by have := HD.out x; omega
        obtain ⟨n, hnn⟩ : ∃ n, n = h'.length := ⟨_, rfl⟩
        have hn0 : ((n : Int) == 0) = false := by simp; omega
        have hn1 : (0 : Int) < (n : Int) := by omega
        have k7 : W.cell? ⟨M, 7, none⟩ = some (.slice (some ⟨g, 0, none⟩) n cap2) := by rw [hnn, ← hpe]; exact hst.out.Mb.cell 7 rfl
        have kg : W.cell? ⟨g, 0, none⟩ = some (.pointer (some ⟨P x, 0, none⟩)) := by rw [← hroot]; exact hg.cell 0 (hcell 0 (by omega))
        have k1 : W.cell? ⟨P x, 1, none⟩ = some (.int .u64 d) := by rw [hde]; exact hbx.cell 1 rfl
        have k2 : W.cell? ⟨P x, 2, none⟩ = some (.int .i64 0) := hbx.cell 2 rfl
        have k3 : W.cell? ⟨P x, 3, none⟩ = some (.pointer none) := hbx.cell 3 rfl
        have q0 : W.cell? ⟨w.heap.size, 0, none⟩ = some (.int .u64 t) := htb.out.cell 0 rfl
        have q1 : W.cell? ⟨w.heap.size, 1, none⟩ = some (.int .i64 0) := htb.out.cell 1 rfl
        have q2 : W.cell? ⟨w.heap.size, 2, none⟩ = some (.pointer none) := htb.out.cell 2 rfl
        have l1 := hst.out.Mb.lt
        have l2 := hg.lt
        have l3 := hbx.lt
        have l4 := htb.out.lt
        have HAF : Hid (∀ w, Calls Yba.prog 37 #[.agg #[.int .u64 d, .int .i64 0, .pointer none], .agg #[.int .u64 t, .int .i64 0, .pointer none]] w fun e w' => e = .returned (.bool (decide (t < d))) ∧ Below w.heap.size w w') := by
          show ∀ w, _
          intro w
          simpa using Tm.after_any d 0 t 0 w hd0 (by omega) ht0 (by omega)
        have HDE : Hid (d = (dd x : Int)) := hde
        have HROOT : Hid (Ord.at' h' 0 = x) := hroot
        have HSB : Hid ((x :: b).Pairwise (Ord.lt dd)) := hsb
        have HLEN : Hid (h'.length = b.length + 1) := hlen
        clear hpf c7 hlen hsb hroot hxN hpe hg hle hm hsz hcell htk hbx hde hnn
        go_upto_region 3 with fail
        go_cut [32] (fun v wc => v = .bool (decide (t < d)) ∧ Below W.heap.size W wc)
        case first =>
          refine wp_region_held_drew (S := (fun w' => w'.cell? ⟨M, 7, none⟩ = some (.slice (some ⟨g, 0, none⟩) n cap2) ∧ w'.cell? ⟨g, 0, none⟩ = some (.pointer (some ⟨P x, 0, none⟩)) ∧ w'.cell? ⟨P x, 1, none⟩ = some (.int .u64 d) ∧ w'.cell? ⟨P x, 2, none⟩ = some (.int .i64 0) ∧ w'.cell? ⟨P x, 3, none⟩ = some (.pointer none) ∧ w'.cell? ⟨w.heap.size, 0, none⟩ = some (.int .u64 t) ∧ w'.cell? ⟨w.heap.size, 1, none⟩ = some (.int .i64 0) ∧ w'.cell? ⟨w.heap.size, 2, none⟩ = some (.pointer none))) (by kernel_rfl) (by go_keep) (fun hHeld => ?_)
          refine wpAnyH_take (i := 0) (oi := { dst := some 14, op := Go.Op.move (Go.Operand.tmp 0), type := 28, pos := "manual.go:107", after := #[], guard := none }) (v := .pointer (some ⟨M, 0, none⟩)) rfl (by kernel_rfl) (by kernel_rfl) (by kernel_rfl) (fun _ _ _ h => h) (Or.inl ⟨by rfl, (fun w hSw => by (try dsimp only at hSw); go_simp)⟩) (by assumption) ?_
          try simp only [Act.put, List.setIfInBounds_toArray, List.set_cons_zero, List.set_cons_succ]
          refine wpAnyH_take (i := 1) (oi := { dst := some 15, op := Go.Op.nilCheck (Go.Operand.tmp 14), type := 0, pos := "manual.go:107", after := #[{ on := 0, ground := Go.Ground.data }], guard := none }) (v := .pointer (some ⟨M, 0, none⟩)) rfl (by kernel_rfl) (by kernel_rfl) (by kernel_rfl) (fun _ _ _ h => h) (Or.inl ⟨by rfl, (fun w hSw => by (try dsimp only at hSw); go_simp)⟩) (by assumption) ?_
          try simp only [Act.put, List.setIfInBounds_toArray, List.set_cons_zero, List.set_cons_succ]
          refine wpAnyH_take (i := 2) (oi := { dst := some 16, op := Go.Op.fieldAddr 91 (Go.Operand.tmp 15) 3, type := 0, pos := "manual.go:107", after := #[{ on := 1, ground := Go.Ground.data }], guard := none }) (v := .pointer (some ⟨M, 7, none⟩)) rfl (by kernel_rfl) (by kernel_rfl) (by kernel_rfl) (fun _ _ _ h => h) (Or.inl ⟨by rfl, (fun w hSw => by (try dsimp only at hSw); go_simp)⟩) (by assumption) ?_
          try simp only [Act.put, List.setIfInBounds_toArray, List.set_cons_zero, List.set_cons_succ]
          refine wpAnyH_take (i := 3) (oi := { dst := some 17, op := Go.Op.load 81 (Go.Operand.tmp 16), type := 81, pos := "manual.go:107", after := #[{ on := 2, ground := Go.Ground.data }], guard := none }) (v := .slice (some ⟨g, 0, none⟩) n cap2) rfl (by kernel_rfl) (by kernel_rfl) (by kernel_rfl) (fun _ _ _ h => h) (Or.inl ⟨by rfl, (fun w hSw => by (try dsimp only at hSw); go_simp)⟩) (by assumption) ?_
          try simp only [Act.put, List.setIfInBounds_toArray, List.set_cons_zero, List.set_cons_succ]
          refine wpAnyH_take (i := 4) (oi := { dst := some 18, op := Go.Op.call { callee := Go.Callee.builtin Go.Builtin.len, args := #[Go.Operand.tmp 17], argTypes := #[81] }, type := 3, pos := "manual.go:107", after := #[{ on := 3, ground := Go.Ground.data }], guard := none }) (v := .int .i64 (n : Int)) rfl (by kernel_rfl) (by kernel_rfl) (by kernel_rfl) (fun _ _ _ h => h) (Or.inl ⟨by rfl, (fun w hSw => by (try dsimp only at hSw); go_simp)⟩) (by assumption) ?_
          try simp only [Act.put, List.setIfInBounds_toArray, List.set_cons_zero, List.set_cons_succ]
          refine wpAnyH_take (i := 5) (oi := { dst := some 19, op := Go.Op.binOp Go.BinOp.eql 3 (Go.Operand.tmp 18) (Go.Operand.const (Go.Value.int Go.IntKind.i64 0)) 3, type := 4, pos := "manual.go:107", after := #[{ on := 4, ground := Go.Ground.data }], guard := none }) (v := .bool false) rfl (by kernel_rfl) (by kernel_rfl) (by kernel_rfl) (fun _ _ _ h => h) (Or.inl ⟨by rfl, (fun w hSw => by (try dsimp only at hSw); go_simp)⟩) (by assumption) ?_
          try simp only [Act.put, List.setIfInBounds_toArray, List.set_cons_zero, List.set_cons_succ]
          refine wpAnyH_take (i := 6) (oi := { dst := some 20, op := Go.Op.move (Go.Operand.tmp 19), type := 4, pos := "manual.go:107", after := #[{ on := 5, ground := Go.Ground.data }], guard := none }) (v := .bool false) rfl (by kernel_rfl) (by kernel_rfl) (by kernel_rfl) (fun _ _ _ h => h) (Or.inl ⟨by rfl, (fun w hSw => by (try dsimp only at hSw); go_simp)⟩) (by assumption) ?_
          try simp only [Act.put, List.setIfInBounds_toArray, List.set_cons_zero, List.set_cons_succ]
          refine wpAnyH_take (i := 7) (oi := { dst := some 21, op := Go.Op.move (Go.Operand.tmp 0), type := 28, pos := "manual.go:107", after := #[{ on := 6, ground := Go.Ground.guard }], guard := some (6, false) }) (v := .pointer (some ⟨M, 0, none⟩)) rfl (by kernel_rfl) (by kernel_rfl) (by kernel_rfl) (fun _ _ _ h => h) (Or.inl ⟨by rfl, (fun w hSw => by (try dsimp only at hSw); go_simp)⟩) (by assumption) ?_
          try simp only [Act.put, List.setIfInBounds_toArray, List.set_cons_zero, List.set_cons_succ]
          refine wpAnyH_take (i := 8) (oi := { dst := some 22, op := Go.Op.nilCheck (Go.Operand.tmp 21), type := 0, pos := "manual.go:107", after := #[{ on := 7, ground := Go.Ground.data }, { on := 6, ground := Go.Ground.guard }], guard := some (6, false) }) (v := .pointer (some ⟨M, 0, none⟩)) rfl (by kernel_rfl) (by kernel_rfl) (by kernel_rfl) (fun _ _ _ h => h) (Or.inl ⟨by rfl, (fun w hSw => by (try dsimp only at hSw); go_simp)⟩) (by assumption) ?_
          try simp only [Act.put, List.setIfInBounds_toArray, List.set_cons_zero, List.set_cons_succ]
          refine wpAnyH_take (i := 9) (oi := { dst := some 23, op := Go.Op.fieldAddr 91 (Go.Operand.tmp 22) 3, type := 0, pos := "manual.go:107", after := #[{ on := 8, ground := Go.Ground.data }, { on := 6, ground := Go.Ground.guard }], guard := some (6, false) }) (v := .pointer (some ⟨M, 7, none⟩)) rfl (by kernel_rfl) (by kernel_rfl) (by kernel_rfl) (fun _ _ _ h => h) (Or.inl ⟨by rfl, (fun w hSw => by (try dsimp only at hSw); go_simp)⟩) (by assumption) ?_
          try simp only [Act.put, List.setIfInBounds_toArray, List.set_cons_zero, List.set_cons_succ]
          refine wpAnyH_take (i := 10) (oi := { dst := some 24, op := Go.Op.load 81 (Go.Operand.tmp 23), type := 81, pos := "manual.go:107", after := #[{ on := 9, ground := Go.Ground.data }, { on := 6, ground := Go.Ground.guard }], guard := some (6, false) }) (v := .slice (some ⟨g, 0, none⟩) n cap2) rfl (by kernel_rfl) (by kernel_rfl) (by kernel_rfl) (fun _ _ _ h => h) (Or.inl ⟨by rfl, (fun w hSw => by (try dsimp only at hSw); go_simp)⟩) (by assumption) ?_
          try simp only [Act.put, List.setIfInBounds_toArray, List.set_cons_zero, List.set_cons_succ]
          refine wpAnyH_take (i := 11) (oi := { dst := some 25, op := Go.Op.indexAddr 81 (Go.Operand.tmp 24) (Go.Operand.const (Go.Value.int Go.IntKind.i64 0)), type := 0, pos := "manual.go:107", after := #[{ on := 10, ground := Go.Ground.data }, { on := 6, ground := Go.Ground.guard }], guard := some (6, false) }) (v := .pointer (some ⟨g, 0, none⟩)) rfl (by kernel_rfl) (by kernel_rfl) (by kernel_rfl) (fun _ _ _ h => h) (Or.inl ⟨by rfl, (fun w hSw => by (try dsimp only at hSw); go_simp; (intro h0; exfalso; omega))⟩) (by assumption) ?_
          try simp only [Act.put, List.setIfInBounds_toArray, List.set_cons_zero, List.set_cons_succ]
          refine wpAnyH_take (i := 12) (oi := { dst := some 26, op := Go.Op.load 93 (Go.Operand.tmp 25), type := 93, pos := "manual.go:107", after := #[{ on := 11, ground := Go.Ground.data }, { on := 6, ground := Go.Ground.guard }], guard := some (6, false) }) (v := .pointer (some ⟨P x, 0, none⟩)) rfl (by kernel_rfl) (by kernel_rfl) (by kernel_rfl) (fun _ _ _ h => h) (Or.inl ⟨by rfl, (fun w hSw => by (try dsimp only at hSw); go_simp)⟩) (by assumption) ?_
          try simp only [Act.put, List.setIfInBounds_toArray, List.set_cons_zero, List.set_cons_succ]
          refine wpAnyH_take (i := 13) (oi := { dst := some 27, op := Go.Op.nilCheck (Go.Operand.tmp 26), type := 0, pos := "manual.go:107", after := #[{ on := 12, ground := Go.Ground.data }, { on := 6, ground := Go.Ground.guard }], guard := some (6, false) }) (v := .pointer (some ⟨P x, 0, none⟩)) rfl (by kernel_rfl) (by kernel_rfl) (by kernel_rfl) (fun _ _ _ h => h) (Or.inl ⟨by rfl, (fun w hSw => by (try dsimp only at hSw); go_simp)⟩) (by assumption) ?_
          try simp only [Act.put, List.setIfInBounds_toArray, List.set_cons_zero, List.set_cons_succ]
          refine wpAnyH_take (i := 14) (oi := { dst := some 28, op := Go.Op.fieldAddr 95 (Go.Operand.tmp 27) 1, type := 0, pos := "manual.go:107", after := #[{ on := 13, ground := Go.Ground.data }, { on := 6, ground := Go.Ground.guard }], guard := some (6, false) }) (v := .pointer (some ⟨P x, 1, none⟩)) rfl (by kernel_rfl) (by kernel_rfl) (by kernel_rfl) (fun _ _ _ h => h) (Or.inl ⟨by rfl, (fun w hSw => by (try dsimp only at hSw); go_simp)⟩) (by assumption) ?_
          try simp only [Act.put, List.setIfInBounds_toArray, List.set_cons_zero, List.set_cons_succ]
          refine wpAnyH_take (i := 15) (oi := { dst := some 29, op := Go.Op.load 27 (Go.Operand.tmp 28), type := 27, pos := "manual.go:107", after := #[{ on := 14, ground := Go.Ground.data }, { on := 6, ground := Go.Ground.guard }], guard := some (6, false) }) (v := .agg #[.int .u64 d, .int .i64 0, .pointer none]) rfl (by kernel_rfl) (by kernel_rfl) (by kernel_rfl) (fun _ _ _ h => h) (Or.inl ⟨by rfl, (fun w hSw => by (try dsimp only at hSw); go_simp)⟩) (by assumption) ?_
          try simp only [Act.put, List.setIfInBounds_toArray, List.set_cons_zero, List.set_cons_succ]
          refine wpAnyH_take (i := 16) (oi := { dst := some 30, op := Go.Op.load 27 (Go.Operand.tmp 3), type := 27, pos := "manual.go:107", after := #[{ on := 6, ground := Go.Ground.guard }], guard := some (6, false) }) (v := .agg #[.int .u64 t, .int .i64 0, .pointer none]) rfl (by kernel_rfl) (by kernel_rfl) (by kernel_rfl) (fun _ _ _ h => h) (Or.inl ⟨by rfl, (fun w hSw => by (try dsimp only at hSw); go_simp)⟩) (by assumption) ?_
          try simp only [Act.put, List.setIfInBounds_toArray, List.set_cons_zero, List.set_cons_succ]
          refine wpAnyH_ready (rs := [17]) (by kernel_rfl) (by simp) ?_
          refine AllReadyH.cons (o := { dst := some 31, op := Go.Op.call { callee := Go.Callee.value (Go.Operand.func 37), args := #[Go.Operand.tmp 29, Go.Operand.tmp 30], argTypes := #[27, 27] }, type := 4, pos := "manual.go:107", after := #[{ on := 15, ground := Go.Ground.data }, { on := 16, ground := Go.Ground.data }, { on := 6, ground := Go.Ground.chain }, { on := 6, ground := Go.Ground.guard }], guard := some (6, false) }) rfl (fun K hK => ?_) AllReadyH.nil
          go_simp
          refine (HAF.out _).mono ?_
          rintro e w' ⟨rfl, hw'⟩
          go_wp2_with fail
          refine hK.out _ _ (by obtain ⟨h1, h2, h3, h4, h5, h6, h7, h8⟩ := hHeld; exact ⟨(hw'.cell l1).trans h1, (hw'.cell l2).trans h2, (hw'.cell l3).trans h3, (hw'.cell l3).trans h4, (hw'.cell l3).trans h5, (hw'.cell l4).trans h6, (hw'.cell l4).trans h7, (hw'.cell l4).trans h8⟩) (fun hHeld => ?_)
          clear hK K
          try simp only [Act.put, List.setIfInBounds_toArray, List.set_cons_zero, List.set_cons_succ]
          refine wpAnyH_take (i := 18) (oi := { dst := some 32, op := Go.Op.pick (Go.Operand.tmp 20) (Go.Operand.const (Go.Value.bool true)) (Go.Operand.tmp 31), type := 4, pos := "manual.go:107", after := #[{ on := 6, ground := Go.Ground.data }, { on := 17, ground := Go.Ground.data }], guard := none }) (v := .bool (decide (t < d))) rfl (by kernel_rfl) (by kernel_rfl) (by kernel_rfl) (fun _ _ _ h => h) (Or.inl ⟨by rfl, (fun w hSw => by (try dsimp only at hSw); go_simp)⟩) (by assumption) ?_
          try simp only [Act.put, List.setIfInBounds_toArray, List.set_cons_zero, List.set_cons_succ]
          refine wpAnyH_done (by kernel_rfl) ?_ _
          go_wp2_with fail
          go_meet
          case rel => exact ⟨rfl, (Below.refl _ _).drew.trans hw'⟩
        case rest =>
          obtain ⟨rfl, hB1⟩ := hcut
          have stX : Hid (St wc B M Lg V Bs Ph P Kb dd N adv 1 (nw' : Int) pend' h' (l ++ a.map (fun x => (x, ph))) ph) := hst.out.below hB1
          have tbX : Hid (Bk wc w.heap.size #[.int .u64 t, .int .i64 0, .pointer none] 27) := htb.out.below hB1 l4
          have GX : Hid (Fr B [91, 93, 95, 30, 39] W wc) := Fr.ofBelow hB1
          clear hB1 k7 kg k1 k2 k3 q0 q1 q2 l1 l2 l3 l4 HAF
          by_cases htd : t < d
          · have frX : Hid (Fr B [91, 93, 95, 30, 39] w wc) := hfr.out.trans GX.out
            have HGT : Hid (∀ y ∈ x :: b, T < dd y) := by
              show ∀ y ∈ x :: b, T < dd y
              intro y hy
              have e1 := HDE.out
              have e2 := HTT.out
              rcases List.mem_cons.1 hy with rfl | hy
              · omega
              · have h3 := List.rel_of_pairwise_cons HSB.out hy
                unfold Ord.lt at h3
                omega
            have hdt : decide (t < d) = true := by simp [htd]
            rw [hdt]
            clear hdt
            have xs4 := ((stX.out.set 4 (.int .u64 t) rfl : St _ B M Lg V Bs Ph P Kb dd N adv 1 t pend' h' (l ++ a.map (fun x => (x, ph))) ph).set 5 (.int .i64 0) rfl : St _ B M Lg V Bs Ph P Kb dd N adv 1 t pend' h' (l ++ a.map (fun x => (x, ph))) ph)
            have xs6 : St (((wc.setCell ⟨M, 4, none⟩ (.int .u64 t)).setCell ⟨M, 5, none⟩ (.int .i64 0)).setCell ⟨M, 6, none⟩ (.pointer none)) B M Lg V Bs Ph P Kb dd N adv 1 t pend' h' (l ++ a.map (fun x => (x, ph))) ph := xs4.set 6 (.pointer none) rfl
            have xfr : Fr B [91, 93, 95, 30, 39] w (((wc.setCell ⟨M, 4, none⟩ (.int .u64 t)).setCell ⟨M, 5, none⟩ (.int .i64 0)).setCell ⟨M, 6, none⟩ (.pointer none)) := (((frX.out.set stX.out.Mb stX.out.bM (by decide) _).set (stX.out.Mb.set 4 (.int .u64 t)) stX.out.bM (by decide) _).set ((stX.out.Mb.set 4 (.int .u64 t)).set 5 (.int .i64 0)) stX.out.bM (by decide) _)
            have XS : Hid (St (((wc.setCell ⟨M, 4, none⟩ (.int .u64 t)).setCell ⟨M, 5, none⟩ (.int .i64 0)).setCell ⟨M, 6, none⟩ (.pointer none)) B M Lg V Bs Ph P Kb dd N adv 1 t pend' h' (l ++ a.map (fun x => (x, ph))) ph) := xs6
            have XF : Hid (Fr B [91, 93, 95, 30, 39] w (((wc.setCell ⟨M, 4, none⟩ (.int .u64 t)).setCell ⟨M, 5, none⟩ (.int .i64 0)).setCell ⟨M, 6, none⟩ (.pointer none))) := xfr
            have m4 : wc.cell? ⟨M, 4, none⟩ = some (.int .u64 (nw' : Int)) := stX.out.Mb.cell 4 rfl
            have m5 : wc.cell? ⟨M, 5, none⟩ = some (.int .i64 0) := stX.out.Mb.cell 5 rfl
            have m6 : wc.cell? ⟨M, 6, none⟩ = some (.pointer none) := stX.out.Mb.cell 6 rfl
            have f4 := stX.out.Mb.free 4
            have f5 := stX.out.Mb.free 5
            have f6 := stX.out.Mb.free 6
            have q0 : wc.cell? ⟨w.heap.size, 0, none⟩ = some (.int .u64 t) := tbX.out.cell 0 rfl
            have q1 : wc.cell? ⟨w.heap.size, 1, none⟩ = some (.int .i64 0) := tbX.out.cell 1 rfl
            have q2 : wc.cell? ⟨w.heap.size, 2, none⟩ = some (.pointer none) := tbX.out.cell 2 rfl
            have HU : Hid (Calls Yba.prog 19 #[.pointer (some ⟨M, 2, none⟩)] (((wc.setCell ⟨M, 4, none⟩ (.int .u64 t)).setCell ⟨M, 5, none⟩ (.int .i64 0)).setCell ⟨M, 6, none⟩ (.pointer none)) fun e w' => e = .returned (.tuple #[]) ∧ w' = (((wc.setCell ⟨M, 4, none⟩ (.int .u64 t)).setCell ⟨M, 5, none⟩ (.int .i64 0)).setCell ⟨M, 6, none⟩ (.pointer none)).setCell ⟨M, 2, none⟩ (.int .i32 0)) := unlock _ _ (xs6.Mb.cell 2 rfl) (xs6.Mb.free 2)
            clear xs4 xs6 xfr
            go_wp2_with fail
            refine HU.out.mono ?_
            rintro e w' ⟨rfl, hw'⟩
            rw [hw']
            clear hw'
            go_wp2_with fail
            refine bodyPost_end (results_none rfl _ _ _) rfl ⟨rfl, a, x :: b, pend', h', hfac.out.1, hfac.out.2.1, HGT.out, hfac.out.2.2.1, XS.out.set 2 _ rfl, XF.out.set XS.out.Mb XS.out.bM (by decide) _⟩
          · have HXT : Hid (dd x ≤ T) := by have e1 := HDE.out; have e2 := HTT.out; show dd x ≤ T; omega
            have hdt : decide (t < d) = false := by simp [htd]
            rw [hdt]
            clear hdt htd
            have HPOP : Hid (Calls Yba.prog 38 #[.iface 97 (.pointer (some ⟨M, 7, none⟩))] wc fun e w' => e = .returned (.iface 93 (.pointer (some ⟨P x, 0, none⟩))) ∧ ∃ pend2 h2, (x :: h2).Perm h' ∧ Ord.isHeap dd h2 h2.length ∧ HeapAt w' B M P dd (fvOf Lg V Bs Ph Kb) N pend2 h2 ∧ Bk w' M ((man M adv 1 (nw' : Int) pend' (N : Int)).setIfInBounds 7 pend2) 91 ∧ Fr B [91, 93, 95] wc w') := by
              have hb1 : b.length + 1 ≤ 1024 := by
                have h1 := HLL.out
                rw [hfac.out.1] at h1
                simp only [List.length_append, List.length_cons] at h1
                omega
              have := pop_any wc B M P dd (fvOf Lg V Bs Ph Kb) N pend' h' _ stX.out.H stX.out.Mb rfl (by have := HLEN.out; omega) (by have := HLEN.out; omega) stX.out.bM HD.out stX.out.hp
              rw [HROOT.out] at this
              exact this
            go_wp2_with fail
            refine HPOP.out.mono ?_
            rintro e X ⟨rfl, pend2, h2, hp2, hhp2, hH2, hM2, hF2⟩
            have SX : Hid (St X B M Lg V Bs Ph P Kb dd N adv 1 (nw' : Int) pend2 h2 (l ++ a.map (fun x => (x, ph))) ph) := stX.out.pop hH2 hM2 hhp2 hF2
            have GX2 : Hid (Fr B [91, 93, 95, 30, 39] W X) := GX.out.trans (hF2.mono (Nat.le_refl _) (by simp))
            have HP2 : Hid (h2.Perm b) := List.Perm.cons_inv (hp2.trans hfac.out.2.2.1)
            have hta := ta93 ⟨P x, 0, none⟩ X
            obtain ⟨_, ix2, hbx⟩ := SX.out.H.tim x HXN.out
            have k1 : X.cell? ⟨P x, 1, none⟩ = some (.int .u64 d) := by rw [HDE.out]; exact hbx.cell 1 rfl
            have k2 : X.cell? ⟨P x, 2, none⟩ = some (.int .i64 0) := hbx.cell 2 rfl
            have k3 : X.cell? ⟨P x, 3, none⟩ = some (.pointer none) := hbx.cell 3 rfl
            have m4 : X.cell? ⟨M, 4, none⟩ = some (.int .u64 (nw' : Int)) := SX.out.Mb.cell 4 rfl
            have m5 : X.cell? ⟨M, 5, none⟩ = some (.int .i64 0) := SX.out.Mb.cell 5 rfl
            have m6 : X.cell? ⟨M, 6, none⟩ = some (.pointer none) := SX.out.Mb.cell 6 rfl
            have l1 := SX.out.Mb.lt
            have l3 := hbx.lt
            have nw0 : nw' < 2000 := by have h1 := hfac.out.2.2.2.1; have h2 := HNT.out; omega
            have HNX : Hid (nw' ≤ dd x) := hfac.out.2.2.2.2 x (by simp)
            have HAF2 : Hid (∀ w, Calls Yba.prog 37 #[.agg #[.int .u64 d, .int .i64 0, .pointer none], .agg #[.int .u64 (nw' : Int), .int .i64 0, .pointer none]] w fun e w' => e = .returned (.bool (decide ((nw' : Int) < d))) ∧ Below w.heap.size w w') := by
              show ∀ w, _
              intro w
              simpa using Tm.after_any d 0 (nw' : Int) 0 w hd0 (by omega) (by omega) (by omega)
            clear hp2 hhp2 hH2 hM2 hF2 HPOP hbx stX GX tbX
            go_upto_region 5 with fail
            go_cut [47] (fun v wd => v = .bool (decide ((nw' : Int) < d)) ∧ Below X.heap.size X wd)
            case first =>
              refine wp_region_held_drew (S := (fun w' => w'.cell? ⟨P x, 1, none⟩ = some (.int .u64 d) ∧ w'.cell? ⟨P x, 2, none⟩ = some (.int .i64 0) ∧ w'.cell? ⟨P x, 3, none⟩ = some (.pointer none) ∧ w'.cell? ⟨M, 4, none⟩ = some (.int .u64 (nw' : Int)) ∧ w'.cell? ⟨M, 5, none⟩ = some (.int .i64 0) ∧ w'.cell? ⟨M, 6, none⟩ = some (.pointer none))) (by kernel_rfl) (by go_keep) (fun hHeld => ?_)
              refine wpAnyH_take (i := 0) (oi := { dst := some 39, op := Go.Op.move (Go.Operand.tmp 4), type := 93, pos := "manual.go:112", after := #[], guard := none }) (v := .pointer (some ⟨P x, 0, none⟩)) rfl (by kernel_rfl) (by kernel_rfl) (by kernel_rfl) (fun _ _ _ h => h) (Or.inl ⟨by rfl, (fun w hSw => by (try dsimp only at hSw); go_simp)⟩) (by assumption) ?_
              try simp only [Act.put, List.setIfInBounds_toArray, List.set_cons_zero, List.set_cons_succ]
              refine wpAnyH_take (i := 1) (oi := { dst := some 40, op := Go.Op.nilCheck (Go.Operand.tmp 39), type := 0, pos := "manual.go:112", after := #[{ on := 0, ground := Go.Ground.data }], guard := none }) (v := .pointer (some ⟨P x, 0, none⟩)) rfl (by kernel_rfl) (by kernel_rfl) (by kernel_rfl) (fun _ _ _ h => h) (Or.inl ⟨by rfl, (fun w hSw => by (try dsimp only at hSw); go_simp)⟩) (by assumption) ?_
              try simp only [Act.put, List.setIfInBounds_toArray, List.set_cons_zero, List.set_cons_succ]
              refine wpAnyH_take (i := 2) (oi := { dst := some 41, op := Go.Op.fieldAddr 95 (Go.Operand.tmp 40) 1, type := 0, pos := "manual.go:112", after := #[{ on := 1, ground := Go.Ground.data }], guard := none }) (v := .pointer (some ⟨P x, 1, none⟩)) rfl (by kernel_rfl) (by kernel_rfl) (by kernel_rfl) (fun _ _ _ h => h) (Or.inl ⟨by rfl, (fun w hSw => by (try dsimp only at hSw); go_simp)⟩) (by assumption) ?_
              try simp only [Act.put, List.setIfInBounds_toArray, List.set_cons_zero, List.set_cons_succ]
              refine wpAnyH_take (i := 3) (oi := { dst := some 42, op := Go.Op.load 27 (Go.Operand.tmp 41), type := 27, pos := "manual.go:112", after := #[{ on := 2, ground := Go.Ground.data }], guard := none }) (v := .agg #[.int .u64 d, .int .i64 0, .pointer none]) rfl (by kernel_rfl) (by kernel_rfl) (by kernel_rfl) (fun _ _ _ h => h) (Or.inl ⟨by rfl, (fun w hSw => by (try dsimp only at hSw); go_simp)⟩) (by assumption) ?_
              try simp only [Act.put, List.setIfInBounds_toArray, List.set_cons_zero, List.set_cons_succ]
              refine wpAnyH_take (i := 4) (oi := { dst := some 43, op := Go.Op.move (Go.Operand.tmp 0), type := 28, pos := "manual.go:112", after := #[], guard := none }) (v := .pointer (some ⟨M, 0, none⟩)) rfl (by kernel_rfl) (by kernel_rfl) (by kernel_rfl) (fun _ _ _ h => h) (Or.inl ⟨by rfl, (fun w hSw => by (try dsimp only at hSw); go_simp)⟩) (by assumption) ?_
              try simp only [Act.put, List.setIfInBounds_toArray, List.set_cons_zero, List.set_cons_succ]
              refine wpAnyH_take (i := 5) (oi := { dst := some 44, op := Go.Op.nilCheck (Go.Operand.tmp 43), type := 0, pos := "manual.go:112", after := #[{ on := 4, ground := Go.Ground.data }], guard := none }) (v := .pointer (some ⟨M, 0, none⟩)) rfl (by kernel_rfl) (by kernel_rfl) (by kernel_rfl) (fun _ _ _ h => h) (Or.inl ⟨by rfl, (fun w hSw => by (try dsimp only at hSw); go_simp)⟩) (by assumption) ?_
              try simp only [Act.put, List.setIfInBounds_toArray, List.set_cons_zero, List.set_cons_succ]
              refine wpAnyH_take (i := 6) (oi := { dst := some 45, op := Go.Op.fieldAddr 91 (Go.Operand.tmp 44) 2, type := 0, pos := "manual.go:112", after := #[{ on := 5, ground := Go.Ground.data }], guard := none }) (v := .pointer (some ⟨M, 4, none⟩)) rfl (by kernel_rfl) (by kernel_rfl) (by kernel_rfl) (fun _ _ _ h => h) (Or.inl ⟨by rfl, (fun w hSw => by (try dsimp only at hSw); go_simp)⟩) (by assumption) ?_
              try simp only [Act.put, List.setIfInBounds_toArray, List.set_cons_zero, List.set_cons_succ]
              refine wpAnyH_take (i := 7) (oi := { dst := some 46, op := Go.Op.load 27 (Go.Operand.tmp 45), type := 27, pos := "manual.go:112", after := #[{ on := 6, ground := Go.Ground.data }], guard := none }) (v := .agg #[.int .u64 (nw' : Int), .int .i64 0, .pointer none]) rfl (by kernel_rfl) (by kernel_rfl) (by kernel_rfl) (fun _ _ _ h => h) (Or.inl ⟨by rfl, (fun w hSw => by (try dsimp only at hSw); go_simp)⟩) (by assumption) ?_
              try simp only [Act.put, List.setIfInBounds_toArray, List.set_cons_zero, List.set_cons_succ]
              refine wpAnyH_ready (rs := [8]) (by kernel_rfl) (by simp) ?_
              refine AllReadyH.cons (o := { dst := some 47, op := Go.Op.call { callee := Go.Callee.value (Go.Operand.func 37), args := #[Go.Operand.tmp 42, Go.Operand.tmp 46], argTypes := #[27, 27] }, type := 4, pos := "manual.go:112", after := #[{ on := 3, ground := Go.Ground.data }, { on := 7, ground := Go.Ground.data }], guard := none }) rfl (fun K hK => ?_) AllReadyH.nil
              go_simp
              refine (HAF2.out _).mono ?_
              rintro e w' ⟨rfl, hw'⟩
              go_wp2_with fail
              refine hK.out _ _ (by obtain ⟨h1, h2, h3, h4, h5, h6⟩ := hHeld; exact ⟨(hw'.cell l3).trans h1, (hw'.cell l3).trans h2, (hw'.cell l3).trans h3, (hw'.cell l1).trans h4, (hw'.cell l1).trans h5, (hw'.cell l1).trans h6⟩) (fun hHeld => ?_)
              clear hK K
              try simp only [Act.put, List.setIfInBounds_toArray, List.set_cons_zero, List.set_cons_succ]
              refine wpAnyH_done (by kernel_rfl) ?_ _
              go_wp2_with fail
              go_meet
              case rel => exact ⟨rfl, (Below.refl _ _).drew.trans hw'⟩
            case rest =>
              rename World => X2
              obtain ⟨rfl, hB2⟩ := hcut
              have SX2 : Hid (St X2 B M Lg V Bs Ph P Kb dd N adv 1 (nw' : Int) pend2 h2 (l ++ a.map (fun x => (x, ph))) ph) := SX.out.below hB2
              have GX3 : Hid (Fr B [91, 93, 95, 30, 39] W X2) := GX2.out.below hB2
              clear hB2 SX GX2 k1 k2 k3 m4 m5 m6 l1 l3 HAF2 hta
              by_cases hnd : (nw' : Int) < d
              · have hdt : decide ((nw' : Int) < d) = true := by simp [hnd]
                rw [hdt]
                clear hdt hnd
                obtain ⟨_, ix2, hbx⟩ := SX2.out.H.tim x HXN.out
                have k1 : X2.cell? ⟨P x, 1, none⟩ = some (.int .u64 d) := by rw [HDE.out]; exact hbx.cell 1 rfl
                have k2 : X2.cell? ⟨P x, 2, none⟩ = some (.int .i64 0) := hbx.cell 2 rfl
                have k3 : X2.cell? ⟨P x, 3, none⟩ = some (.pointer none) := hbx.cell 3 rfl
                have m4 : X2.cell? ⟨M, 4, none⟩ = some (.int .u64 (nw' : Int)) := SX2.out.Mb.cell 4 rfl
                have m5 : X2.cell? ⟨M, 5, none⟩ = some (.int .i64 0) := SX2.out.Mb.cell 5 rfl
                have m6 : X2.cell? ⟨M, 6, none⟩ = some (.pointer none) := SX2.out.Mb.cell 6 rfl
                have f4 := SX2.out.Mb.free 4
                have f5 := SX2.out.Mb.free 5
                have f6 := SX2.out.Mb.free 6
                have hneP : M ≠ P x := Bk.ne SX2.out.Mb hbx (by decide)
                have xs4 := ((SX2.out.set 4 (.int .u64 d) rfl : St _ B M Lg V Bs Ph P Kb dd N adv 1 d pend2 h2 (l ++ a.map (fun x => (x, ph))) ph).set 5 (.int .i64 0) rfl : St _ B M Lg V Bs Ph P Kb dd N adv 1 d pend2 h2 (l ++ a.map (fun x => (x, ph))) ph)
                have xs6 : St (((X2.setCell ⟨M, 4, none⟩ (.int .u64 d)).setCell ⟨M, 5, none⟩ (.int .i64 0)).setCell ⟨M, 6, none⟩ (.pointer none)) B M Lg V Bs Ph P Kb dd N adv 1 d pend2 h2 (l ++ a.map (fun x => (x, ph))) ph := xs4.set 6 (.pointer none) rfl
                rw [HDE.out] at xs6
                have G6 : Hid (Fr B [91, 93, 95, 30, 39] W (((X2.setCell ⟨M, 4, none⟩ (.int .u64 d)).setCell ⟨M, 5, none⟩ (.int .i64 0)).setCell ⟨M, 6, none⟩ (.pointer none))) := (((GX3.out.set SX2.out.Mb SX2.out.bM (by decide) _).set (SX2.out.Mb.set 4 (.int .u64 d)) SX2.out.bM (by decide) _).set ((SX2.out.Mb.set 4 (.int .u64 d)).set 5 (.int .i64 0)) SX2.out.bM (by decide) _)
                rw [← HDE.out] at xs6
                obtain ⟨X3, hX3⟩ : ∃ X3, X3 = (((X2.setCell ⟨M, 4, none⟩ (.int .u64 d)).setCell ⟨M, 5, none⟩ (.int .i64 0)).setCell ⟨M, 6, none⟩ (.pointer none)) := ⟨_, rfl⟩
                have SX3 : Hid (St X3 B M Lg V Bs Ph P Kb dd N adv 1 (dd x : Int) pend2 h2 (l ++ a.map (fun x => (x, ph))) ph) := by rw [hX3, ← HDE.out]; exact xs6
                have GX4 : Hid (Fr B [91, 93, 95, 30, 39] W X3) := by rw [hX3]; exact G6.out
                clear xs4 xs6 G6 hbx SX2 GX3
                go_upto_region 7 with fail
                rw [← hX3]
                clear hX3 k1 k2 k3 m4 m5 m6 f4 f5 f6
                have r1 : X3.cell? ⟨M, 2, none⟩ = some (.int .i32 1) := SX3.out.Mb.cell 2 rfl
                have r2 := SX3.out.Mb.free 2
                have HU : Hid (Calls Yba.prog 19 #[.pointer (some ⟨M, 2, none⟩)] X3 fun e w' => e = .returned (.tuple #[]) ∧ w' = X3.setCell ⟨M, 2, none⟩ (.int .i32 0)) := unlock _ _ r1 r2
                clear r1 r2
                go_wp2_with fail
                refine HU.out.mono ?_
                rintro e Y ⟨rfl, hY⟩
                have SY : Hid (St Y B M Lg V Bs Ph P Kb dd N adv 0 (dd x : Int) pend2 h2 (l ++ a.map (fun x => (x, ph))) ph) := by rw [hY]; exact SX3.out.set 2 _ rfl
                have FY : Hid (Fr B [91, 93, 95, 30, 39] W Y) := by rw [hY]; exact GX4.out.set SX3.out.Mb SX3.out.bM (by decide) _
                clear hY HU
                obtain ⟨_, ix, hbx⟩ := SY.out.H.tim x HXN.out
                have y5 : Y.cell? ⟨P x, 5, none⟩ = some (.func (.func 8) #[] #[.pointer (some ⟨Lg, 0, none⟩), .pointer (some ⟨Kb x, 0, none⟩), .pointer (some ⟨V, 0, none⟩), .pointer (some ⟨Bs, 0, none⟩), .pointer (some ⟨Ph, 0, none⟩)]) := hbx.cell 5 rfl
                clear hbx
                have HRT : Hid (Calls Yba.prog 8 #[.pointer (some ⟨Lg, 0, none⟩), .pointer (some ⟨Kb x, 0, none⟩), .pointer (some ⟨V, 0, none⟩), .pointer (some ⟨Bs, 0, none⟩), .pointer (some ⟨Ph, 0, none⟩)] Y fun e w' => e = .returned (.tuple #[]) ∧ St w' B M Lg V Bs Ph P Kb dd N adv 0 (dd x : Int) pend2 h2 (l ++ a.map (fun x => (x, ph)) ++ [(x, ph)]) ph ∧ Fr B [91, 30, 39] Y w') := by
                  refine run_timer x SY.out HXN.out (Nat.le_trans hBw (hfr.out.trans FY.out).size) ?_ HD.out
                  have h1 := HLL.out
                  rw [hfac.out.1] at h1
                  simp only [List.length_append, List.length_cons, List.length_map] at h1 ⊢
                  omega
                go_wp2_with fail
                refine HRT.out.mono ?_
                rintro e Z ⟨rfl, sZ, fZ⟩
                have SZ : Hid (St Z B M Lg V Bs Ph P Kb dd N adv 0 (dd x : Int) pend2 h2 (l ++ a.map (fun x => (x, ph)) ++ [(x, ph)]) ph) := sZ
                have FZ : Hid (Fr B [91, 93, 95, 30, 39] W Z) := FY.out.trans (fZ.mono (Nat.le_refl _) (by simp))
                have z1 : Z.cell? ⟨M, 2, none⟩ = some (.int .i32 0) := sZ.Mb.cell 2 rfl
                have z2 := sZ.Mb.free 2
                have HLK : Hid (Calls Yba.prog 18 #[.pointer (some ⟨M, 2, none⟩)] Z fun e w' => e = .returned (.tuple #[]) ∧ w' = Z.setCell ⟨M, 2, none⟩ (.int .i32 1)) := lock _ _ z1 z2
                clear sZ fZ z1 z2 HRT y5 SY FY
                go_wp2_with fail
                refine HLK.out.mono ?_
                rintro e Y ⟨rfl, hY⟩
                have SY : Hid (St Y B M Lg V Bs Ph P Kb dd N adv 1 (dd x : Int) pend2 h2 (l ++ a.map (fun x => (x, ph)) ++ [(x, ph)]) ph) := by rw [hY]; exact SZ.out.set 2 _ rfl
                have GY : Hid (Fr B [91, 93, 95, 30, 39] W Y) := by rw [hY]; exact FZ.out.set SZ.out.Mb SZ.out.bM (by decide) _
                have FY : Hid (Fr B [91, 93, 95, 30, 39] w Y) := hfr.out.trans GY.out
                have TY : Hid (Bk Y w.heap.size #[.int .u64 t, .int .i64 0, .pointer none] 27) := htb.out.fr GY.out (by decide)
                clear hY HLK SZ FZ
                go_wp2_with fail
                go_roundg b.length
                case rel =>
                  refine ⟨a ++ [x], b, pend2, h2, dd x, rfl, ?_, ?_, FY, TY⟩
                  · have h1 := hfac.out
                    refine ⟨by rw [h1.1]; simp, ?_, HP2.out, HXT.out, ?_⟩
                    · intro y hy
                      rcases List.mem_append.1 hy with hy | hy
                      · exact h1.2.1 y hy
                      · simp at hy; subst hy; exact HXT.out
                    · intro y hy
                      have h2 := HSO.out
                      rw [h1.1, List.pairwise_append] at h2
                      have h3 := List.rel_of_pairwise_cons h2.2.1 hy
                      unfold Ord.lt at h3
                      omega
                  · have h1 := SY.out
                    rw [List.append_assoc] at h1
                    show St _ _ _ _ _ _ _ _ _ _ _ _ _ _ _ _ _ _
                    rw [List.map_append]
                    exact h1
                all_goals (have h1 := hgk.out; simp only [List.length_cons] at h1; omega)
              · have hdt : decide ((nw' : Int) < d) = false := by simp [hnd]
                rw [hdt]
                have hde2 : (nw' : Int) = (dd x : Int) := by have h1 := HNX.out; have h2 := HDE.out; omega
                have SX3 : Hid (St X2 B M Lg V Bs Ph P Kb dd N adv 1 (dd x : Int) pend2 h2 (l ++ a.map (fun x => (x, ph))) ph) := by rw [← hde2]; exact SX2.out
                clear hdt hnd SX2 hde2
                go_upto_region 7 with fail
                have r1 : X2.cell? ⟨M, 2, none⟩ = some (.int .i32 1) := SX3.out.Mb.cell 2 rfl
                have r2 := SX3.out.Mb.free 2
                have HU : Hid (Calls Yba.prog 19 #[.pointer (some ⟨M, 2, none⟩)] X2 fun e w' => e = .returned (.tuple #[]) ∧ w' = X2.setCell ⟨M, 2, none⟩ (.int .i32 0)) := unlock _ _ r1 r2
                clear r1 r2
                go_wp2_with fail
                refine HU.out.mono ?_
                rintro e Y ⟨rfl, hY⟩
                have SY : Hid (St Y B M Lg V Bs Ph P Kb dd N adv 0 (dd x : Int) pend2 h2 (l ++ a.map (fun x => (x, ph))) ph) := by rw [hY]; exact SX3.out.set 2 _ rfl
                have FY : Hid (Fr B [91, 93, 95, 30, 39] W Y) := by rw [hY]; exact GX3.out.set SX3.out.Mb SX3.out.bM (by decide) _
                clear hY HU
                obtain ⟨_, ix, hbx⟩ := SY.out.H.tim x HXN.out
                have y5 : Y.cell? ⟨P x, 5, none⟩ = some (.func (.func 8) #[] #[.pointer (some ⟨Lg, 0, none⟩), .pointer (some ⟨Kb x, 0, none⟩), .pointer (some ⟨V, 0, none⟩), .pointer (some ⟨Bs, 0, none⟩), .pointer (some ⟨Ph, 0, none⟩)]) := hbx.cell 5 rfl
                clear hbx
                have HRT : Hid (Calls Yba.prog 8 #[.pointer (some ⟨Lg, 0, none⟩), .pointer (some ⟨Kb x, 0, none⟩), .pointer (some ⟨V, 0, none⟩), .pointer (some ⟨Bs, 0, none⟩), .pointer (some ⟨Ph, 0, none⟩)] Y fun e w' => e = .returned (.tuple #[]) ∧ St w' B M Lg V Bs Ph P Kb dd N adv 0 (dd x : Int) pend2 h2 (l ++ a.map (fun x => (x, ph)) ++ [(x, ph)]) ph ∧ Fr B [91, 30, 39] Y w') := by
                  refine run_timer x SY.out HXN.out (Nat.le_trans hBw (hfr.out.trans FY.out).size) ?_ HD.out
                  have h1 := HLL.out
                  rw [hfac.out.1] at h1
                  simp only [List.length_append, List.length_cons, List.length_map] at h1 ⊢
                  omega
                go_wp2_with fail
                refine HRT.out.mono ?_
                rintro e Z ⟨rfl, sZ, fZ⟩
                have SZ : Hid (St Z B M Lg V Bs Ph P Kb dd N adv 0 (dd x : Int) pend2 h2 (l ++ a.map (fun x => (x, ph)) ++ [(x, ph)]) ph) := sZ
                have FZ : Hid (Fr B [91, 93, 95, 30, 39] W Z) := FY.out.trans (fZ.mono (Nat.le_refl _) (by simp))
                have z1 : Z.cell? ⟨M, 2, none⟩ = some (.int .i32 0) := sZ.Mb.cell 2 rfl
                have z2 := sZ.Mb.free 2
                have HLK : Hid (Calls Yba.prog 18 #[.pointer (some ⟨M, 2, none⟩)] Z fun e w' => e = .returned (.tuple #[]) ∧ w' = Z.setCell ⟨M, 2, none⟩ (.int .i32 1)) := lock _ _ z1 z2
                clear sZ fZ z1 z2 HRT y5 SY FY
                go_wp2_with fail
                refine HLK.out.mono ?_
                rintro e Y ⟨rfl, hY⟩
                have SY : Hid (St Y B M Lg V Bs Ph P Kb dd N adv 1 (dd x : Int) pend2 h2 (l ++ a.map (fun x => (x, ph)) ++ [(x, ph)]) ph) := by rw [hY]; exact SZ.out.set 2 _ rfl
                have GY : Hid (Fr B [91, 93, 95, 30, 39] W Y) := by rw [hY]; exact FZ.out.set SZ.out.Mb SZ.out.bM (by decide) _
                have FY : Hid (Fr B [91, 93, 95, 30, 39] w Y) := hfr.out.trans GY.out
                have TY : Hid (Bk Y w.heap.size #[.int .u64 t, .int .i64 0, .pointer none] 27) := htb.out.fr GY.out (by decide)
                clear hY HLK SZ FZ
                go_wp2_with fail
                go_roundg b.length
                case rel =>
                  refine ⟨a ++ [x], b, pend2, h2, dd x, rfl, ?_, ?_, FY, TY⟩
                  · have h1 := hfac.out
                    refine ⟨by rw [h1.1]; simp, ?_, HP2.out, HXT.out, ?_⟩
                    · intro y hy
                      rcases List.mem_append.1 hy with hy | hy
                      · exact h1.2.1 y hy
                      · simp at hy; subst hy; exact HXT.out
                    · intro y hy
                      have h2 := HSO.out
                      rw [h1.1, List.pairwise_append] at h2
                      have h3 := List.rel_of_pairwise_cons h2.2.1 hy
                      unfold Ord.lt at h3
                      omega
                  · have h1 := SY.out
                    rw [List.append_assoc] at h1
                    show St _ _ _ _ _ _ _ _ _ _ _ _ _ _ _ _ _ _
                    rw [List.map_append]
                    exact h1
                all_goals (have h1 := hgk.out; simp only [List.length_cons] at h1; omega)
#print axioms advanceTo_any
end Go.Proofs.Ybulkdask.Hp
