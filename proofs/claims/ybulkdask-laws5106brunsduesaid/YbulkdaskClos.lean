import Derived.Test.YbulkdaskAfter
import Derived.Test.YbulkdaskSeen
namespace Go.Proofs.Ybulkdask.Hp
open Go.RowKit Go.Proofs.Ybulkdask.Tm Go.Proofs.Ybulkdask.Clk Go.Proofs.Ybulkdask.Lk
set_option linter.unusedSimpArgs false
set_option linter.unusedVariables false

theorem inf39 : ∃ i, Yba.prog.info? 39 = some i ∧ i.zero = some (.agg #[.int .i64 0, .int .i64 0, .int .i64 0]) ∧ i.size = 3 ∧ i.bytes = 24 := by
  have h : (Yba.prog.info? 39).map (fun i => (i.zero, i.size, i.bytes)) = some (some (.agg #[.int .i64 0, .int .i64 0, .int .i64 0]), 3, 24) := by kernel_rfl
  obtain ⟨i, hi, he⟩ := Option.map_eq_some_iff.1 h
  simp only [Prod.mk.injEq] at he
  exact ⟨i, hi, he.1, he.2.1, he.2.2⟩

/-- What stands while the closure runs. -/
structure CA (w0 : World) (B M Lg Kb V Bs Ph : Nat) (adv now : Int) (pend : Value) (seq : Int) (lv : Value) (n : Nat) (xs : List Value) (i ph : Int) (w : World) : Prop where
  L : Bk w Lg #[lv] 30
  O : w.ownsRow B 39 3 lv n xs
  Mb : Bk w M (man M adv 0 now pend seq) 91
  K : Bk w Kb #[.int .i64 i] 3
  V : Bk w V #[.pointer (some ⟨M, 0, none⟩)] 28
  Bs : Bk w Bs #[.int .u64 0, .int .i64 0, .pointer none] 27
  Ph : Bk w Ph #[.int .i64 ph] 3
  F : Fr B [91, 30, 39] w0 w

theorem CA.fr {w0 w w' : World} {B M Lg Kb V Bs Ph : Nat} {adv now : Int} {pend : Value} {seq : Int} {lv : Value} {n : Nat} {xs : List Value} {i ph : Int} (c : CA w0 B M Lg Kb V Bs Ph adv now pend seq lv n xs i ph w) (hM : Bk w' M (man M adv 0 now pend seq) 91) (k : Fr B [91] w w') : CA w0 B M Lg Kb V Bs Ph adv now pend seq lv n xs i ph w' :=
  ⟨c.L.fr k (by decide), own_fr c.O k (by decide), hM, c.K.fr k (by decide), c.V.fr k (by decide), c.Bs.fr k (by decide), c.Ph.fr k (by decide), c.F.trans (k.mono (Nat.le_refl _) (by simp))⟩
theorem CA.below {w0 w w' : World} {B M Lg Kb V Bs Ph : Nat} {adv now : Int} {pend : Value} {seq : Int} {lv : Value} {n : Nat} {xs : List Value} {i ph : Int} (c : CA w0 B M Lg Kb V Bs Ph adv now pend seq lv n xs i ph w) (k : Below w.heap.size w w') : CA w0 B M Lg Kb V Bs Ph adv now pend seq lv n xs i ph w' :=
  c.fr (c.Mb.below k c.Mb.lt) (Fr.ofBelow k)
theorem CA.alloc {w0 w : World} {B M Lg Kb V Bs Ph : Nat} {adv now : Int} {pend : Value} {seq : Int} {lv : Value} {n : Nat} {xs : List Value} {i ph : Int} (c : CA w0 B M Lg Kb V Bs Ph adv now pend seq lv n xs i ph w) (o : Obj) : CA w0 B M Lg Kb V Bs Ph adv now pend seq lv n xs i ph (w.alloc o) :=
  c.below ((Below.refl _ _).alloc (Nat.le_refl _) _)
theorem CA.cells {w0 w : World} {B M Lg Kb V Bs Ph : Nat} {adv now : Int} {pend : Value} {seq : Int} {lv : Value} {n : Nat} {xs : List Value} {i ph : Int} (c : CA w0 B M Lg Kb V Bs Ph adv now pend seq lv n xs i ph w) :
    w.cell? ⟨Kb, 0, none⟩ = some (.int .i64 i) ∧ w.cell? ⟨V, 0, none⟩ = some (.pointer (some ⟨M, 0, none⟩)) ∧ w.cell? ⟨Bs, 0, none⟩ = some (.int .u64 0) ∧ w.cell? ⟨Bs, 1, none⟩ = some (.int .i64 0) ∧ w.cell? ⟨Bs, 2, none⟩ = some (.pointer none) ∧ w.cell? ⟨Ph, 0, none⟩ = some (.int .i64 ph) :=
  ⟨c.K.cell 0 rfl, c.V.cell 0 rfl, c.Bs.cell 0 rfl, c.Bs.cell 1 rfl, c.Bs.cell 2 rfl, c.Ph.cell 0 rfl⟩

theorem CA.drew {w0 w : World} {B M Lg Kb V Bs Ph : Nat} {adv now : Int} {pend : Value} {seq : Int} {lv : Value} {n : Nat} {xs : List Value} {i ph : Int} (c : CA w0 B M Lg Kb V Bs Ph adv now pend seq lv n xs i ph w) : CA w0 B M Lg Kb V Bs Ph adv now pend seq lv n xs i ph w.drew :=
  c.below (Below.refl _ _).drew

set_option maxHeartbeats 3200000 in
set_option maxRecDepth 100000 in
/-- The closure: one event more. -/
theorem clos (B M Lg Kb V Bs Ph : Nat) (adv now : Int) (pend : Value) (seq : Int) (lv : Value) (n : Nat) (xs : List Value) (i ph : Int) (w : World) (hBL : B ≤ Lg) (hBM : B ≤ M) (hBw : B ≤ w.heap.size) (hn : n < 1024) (hn0 : 0 ≤ now) (hn1 : now < 1000000000)
    (hc : CA w B M Lg Kb V Bs Ph adv now pend seq lv n xs i ph w) :
    Calls Yba.prog 8 #[.pointer (some ⟨Lg, 0, none⟩), .pointer (some ⟨Kb, 0, none⟩), .pointer (some ⟨V, 0, none⟩), .pointer (some ⟨Bs, 0, none⟩), .pointer (some ⟨Ph, 0, none⟩)] w fun e w' => e = .returned (.tuple #[]) ∧ ∃ lv', CA w B M Lg Kb V Bs Ph adv now pend seq lv' (n + 1) (xs ++ [.int .i64 i, .int .i64 now, .int .i64 ph]) i ph w' := by
  have HSUB : Hid (∀ w, Calls Yba.prog 10 #[.agg #[.int .u64 now, .int .i64 0, .pointer none], .agg #[.int .u64 0, .int .i64 0, .pointer none]] w fun e w' => e = .returned (.int .i64 now) ∧ Below w.heap.size w w') := by
    show ∀ w, _
    intro w
    have := sub_any now 0 0 0 w hn0 hn1 (by decide) (by decide) (by decide) (by decide) (by omega) (by omega)
    rw [show ((0 : Int) - 0) * 1000000000 + (now - 0) = now by omega] at this
    exact this
  obtain ⟨i0, hi, hz0, hz1, hz2⟩ := inf39
  obtain ⟨W, hW⟩ : ∃ W, W = w.drew := ⟨_, rfl⟩
  have HC : Hid (CA w B M Lg Kb V Bs Ph adv now pend seq lv n xs i ph W) := by rw [hW]; exact hc.drew
  have hBs : B ≤ W.heap.size := by rw [hW]; exact hBw
  clear hc
  go_enter Yba.func8, Yba.ntmps8
  go_upto_region 0 with fail
  refine wp_region_held_drew (S := (fun w1 => w1.cell? ⟨Kb, 0, none⟩ = some (.int .i64 i) ∧ w1.cell? ⟨V, 0, none⟩ = some (.pointer (some ⟨M, 0, none⟩)) ∧ w1.cell? ⟨Bs, 0, none⟩ = some (.int .u64 0) ∧ w1.cell? ⟨Bs, 1, none⟩ = some (.int .i64 0) ∧ w1.cell? ⟨Bs, 2, none⟩ = some (.pointer none) ∧ w1.cell? ⟨Ph, 0, none⟩ = some (.int .i64 ph))) (by kernel_rfl) (by rw [← hW]; exact HC.out.cells) (fun hHeld => ?_)
  rw [← hW] at hHeld ⊢
  clear hW
  refine wpAnyH_take (i := 1) (oi := { dst := some 6, op := Go.Op.load 3 (Go.Operand.tmp 1), type := 3, pos := "zz_law_s5106b.go:28", after := #[], guard := none }) (v := .int .i64 i) rfl (by kernel_rfl) (by kernel_rfl) (by kernel_rfl) (fun _ _ _ h => h) (Or.inl ⟨by rfl, (fun w hSw => by (try dsimp only at hSw); go_simp)⟩) (by assumption) ?_
  try simp only [Act.put, List.setIfInBounds_toArray, List.set_cons_zero, List.set_cons_succ]
  refine wpAnyH_take (i := 2) (oi := { dst := some 7, op := Go.Op.load 28 (Go.Operand.tmp 2), type := 28, pos := "zz_law_s5106b.go:28", after := #[], guard := none }) (v := .pointer (some ⟨M, 0, none⟩)) rfl (by kernel_rfl) (by kernel_rfl) (by kernel_rfl) (fun _ _ _ h => h) (Or.inl ⟨by rfl, (fun w hSw => by (try dsimp only at hSw); go_simp)⟩) (by assumption) ?_
  try simp only [Act.put, List.setIfInBounds_toArray, List.set_cons_zero, List.set_cons_succ]
  refine wpAnyH_take (i := 4) (oi := { dst := some 9, op := Go.Op.load 27 (Go.Operand.tmp 3), type := 27, pos := "zz_law_s5106b.go:28", after := #[], guard := none }) (v := .agg #[.int .u64 0, .int .i64 0, .pointer none]) rfl (by kernel_rfl) (by kernel_rfl) (by kernel_rfl) (fun _ _ _ h => h) (Or.inl ⟨by rfl, (fun w hSw => by (try dsimp only at hSw); go_simp)⟩) (by assumption) ?_
  try simp only [Act.put, List.setIfInBounds_toArray, List.set_cons_zero, List.set_cons_succ]
  refine wpAnyH_take (i := 6) (oi := { dst := some 11, op := Go.Op.load 3 (Go.Operand.tmp 4), type := 3, pos := "zz_law_s5106b.go:28", after := #[], guard := none }) (v := .int .i64 ph) rfl (by kernel_rfl) (by kernel_rfl) (by kernel_rfl) (fun _ _ _ h => h) (Or.inl ⟨by rfl, (fun w hSw => by (try dsimp only at hSw); go_simp)⟩) (by assumption) ?_
  try simp only [Act.put, List.setIfInBounds_toArray, List.set_cons_zero, List.set_cons_succ]
  refine wpAnyH_ready (rs := [0, 3]) (by kernel_rfl) (by simp) ?_
  refine AllReadyH.cons (o := { dst := some 5, op := Go.Op.load 30 (Go.Operand.tmp 0), type := 30, pos := "zz_law_s5106b.go:28", after := #[], guard := none }) rfl (fun K hK => ?_) (AllReadyH.cons (o := { dst := some 8, op := Go.Op.call { callee := Go.Callee.value (Go.Operand.func 9), args := #[Go.Operand.tmp 7], argTypes := #[28] }, type := 27, pos := "zz_law_s5106b.go:28", after := #[{ on := 2, ground := Go.Ground.data }], guard := none }) rfl (fun K hK => ?_) AllReadyH.nil)
  · skip
    have cL : W.cell? ⟨Lg, 0, none⟩ = some lv := HC.out.L.cell 0 rfl
    go_simp
    refine hK.out _ _ hHeld (fun hOld => ?_)
    clear hOld
    clear hK K
    try simp only [Act.put, List.setIfInBounds_toArray, List.set_cons_zero, List.set_cons_succ]
    clear cL
    refine wpAnyH_ready (rs := [3]) (by kernel_rfl) (by simp) ?_
    refine AllReadyH.cons (o := { dst := some 8, op := Go.Op.call { callee := Go.Callee.value (Go.Operand.func 9), args := #[Go.Operand.tmp 7], argTypes := #[28] }, type := 27, pos := "zz_law_s5106b.go:28", after := #[{ on := 2, ground := Go.Ground.data }], guard := none }) rfl (fun K hK => ?_) AllReadyH.nil
    go_simp
    refine (now_any B M adv now pend seq _ hBM HC.out.Mb).mono ?_
    rintro e W1 ⟨rfl, hM1, hF1⟩
    have HC1 : Hid (CA w B M Lg Kb V Bs Ph adv now pend seq lv n xs i ph W1) := HC.out.fr hM1 hF1
    have hBs1 : B ≤ W1.heap.size := Nat.le_trans hBs hF1.size
    clear hM1 hF1 hHeld HC hBs
    go_wp2_with fail
    refine hK.out _ _ (HC1.out.cells) (fun hHeld => ?_)
    clear hK K
    try simp only [Act.put, List.setIfInBounds_toArray, List.set_cons_zero, List.set_cons_succ]
    clear W
    rename World => W
    rename Hid (CA w B M Lg Kb V Bs Ph adv now pend seq lv n xs i ph W) => HC
    rename B ≤ W.heap.size => hBs
    refine wpAnyH_ready (rs := [5]) (by kernel_rfl) (by simp) ?_
    refine AllReadyH.cons (o := { dst := some 10, op := Go.Op.call { callee := Go.Callee.value (Go.Operand.func 10), args := #[Go.Operand.tmp 8, Go.Operand.tmp 9], argTypes := #[27, 27] }, type := 34, pos := "zz_law_s5106b.go:28", after := #[{ on := 3, ground := Go.Ground.data }, { on := 4, ground := Go.Ground.data }, { on := 3, ground := Go.Ground.chain }], guard := none }) rfl (fun K hK => ?_) AllReadyH.nil
    go_simp
    refine (HSUB.out _).mono ?_
    rintro e W1 ⟨rfl, hB1⟩
    have HC1 : Hid (CA w B M Lg Kb V Bs Ph adv now pend seq lv n xs i ph W1) := HC.out.below hB1
    have hBs1 : B ≤ W1.heap.size := Nat.le_trans hBs hB1.size
    clear hB1 hHeld HC hBs
    go_wp2_with fail
    refine hK.out _ _ (HC1.out.cells) (fun hHeld => ?_)
    clear hK K
    try simp only [Act.put, List.setIfInBounds_toArray, List.set_cons_zero, List.set_cons_succ]
    clear W
    rename World => W
    rename Hid (CA w B M Lg Kb V Bs Ph adv now pend seq lv n xs i ph W) => HC
    rename B ≤ W.heap.size => hBs
    refine wpAnyH_take (i := 7) (oi := { dst := some 12, op := Go.Op.build 39 #[(0, Go.Operand.tmp 6), (1, Go.Operand.tmp 10), (2, Go.Operand.tmp 11)], type := 39, pos := "zz_law_s5106b.go:28", after := #[{ on := 1, ground := Go.Ground.data }, { on := 5, ground := Go.Ground.data }, { on := 6, ground := Go.Ground.data }], guard := none }) (v := .agg #[.int .i64 i, .int .i64 now, .int .i64 ph]) rfl (by kernel_rfl) (by kernel_rfl) (by kernel_rfl) (fun _ _ _ h => h) (Or.inl ⟨by rfl, (fun w hSw => by (try dsimp only at hSw); go_simp)⟩) (by assumption) ?_
    try simp only [Act.put, List.setIfInBounds_toArray, List.set_cons_zero, List.set_cons_succ]
    refine wpAnyH_ready (rs := [8]) (by kernel_rfl) (by simp) ?_
    refine AllReadyH.cons (o := { dst := some 13, op := Go.Op.buildSlice 30 1 #[(0, Go.Operand.tmp 12)], type := 30, pos := "zz_law_s5106b.go:28", after := #[{ on := 7, ground := Go.Ground.data }], guard := none }) rfl (fun K hK => ?_) AllReadyH.nil
    go_simp
    have HCA : Hid (CA w B M Lg Kb V Bs Ph adv now pend seq lv n xs i ph (W.alloc (.cells #[.int .i64 i, .int .i64 now, .int .i64 ph] 39))) := HC.out.alloc _
    have hBA : B ≤ (W.alloc (.cells #[.int .i64 i, .int .i64 now, .int .i64 ph] 39)).heap.size := by simp; omega
    obtain ⟨g, hg⟩ : ∃ g, g = W.heap.size := ⟨_, rfl⟩
    have hnew : ∀ j u, [.int .i64 i, .int .i64 now, .int .i64 ph][j]? = some u → (W.alloc (.cells #[.int .i64 i, .int .i64 now, .int .i64 ph] 39)).cell? ((⟨g, 0, none⟩ : Addr).add j) = some u := fun j u hu => three_new _ _ _ _ _ _ hg j u hu
    rw [← hg]
    generalize (W.alloc (.cells #[.int .i64 i, .int .i64 now, .int .i64 ph] 39)) = W1 at HCA hBA hnew ⊢
    have HNEW : Hid (∀ j u, [.int .i64 i, .int .i64 now, .int .i64 ph][j]? = some u → W1.cell? ((⟨g, 0, none⟩ : Addr).add j) = some u) := hnew
    clear hnew hg HC hBs hHeld
    refine hK.out _ _ (HCA.out.cells) (fun hHeld => ?_)
    clear hK K
    try simp only [Act.put, List.setIfInBounds_toArray, List.set_cons_zero, List.set_cons_succ]
    clear W
    rename World => W
    rename Hid (CA w B M Lg Kb V Bs Ph adv now pend seq lv n xs i ph W) => HC
    rename B ≤ W.heap.size => hBs
    refine wpAnyH_ready (rs := [9]) (by kernel_rfl) (by simp) ?_
    refine AllReadyH.cons (o := { dst := some 14, op := Go.Op.call { callee := Go.Callee.builtin Go.Builtin.append, args := #[Go.Operand.tmp 5, Go.Operand.tmp 13], argTypes := #[30, 30] }, type := 30, pos := "zz_law_s5106b.go:28", after := #[{ on := 0, ground := Go.Ground.data }, { on := 8, ground := Go.Ground.data }, { on := 5, ground := Go.Ground.chain }], guard := none }) rfl (fun K hK => ?_) AllReadyH.nil
    rw [if_pos (by rfl)]
    refine wp_append_own _ _ _ 30 rfl B 39 i0 (.agg #[.int .i64 0, .int .i64 0, .int .i64 0]) 3 24 Yba.underlying30 hi hz0 hz1 hz2 rfl (by decide) lv n xs rfl HC.out.O ⟨g, 0, none⟩ 1 1 [.int .i64 i, .int .i64 now, .int .i64 ph] rfl rfl HNEW.out (by intro u hu; simp at hu; rcases hu with rfl | rfl | rfl <;> rfl) (by unfold maxLen; omega) (by omega) hBs ?_
    intro v1 W1 ho1 hg1 hn1'
    obtain ⟨g1, x1, hv1⟩ := Go.Joins.ownsRow_form ho1 (by omega)
    subst hv1
    have hc := HC.out
    have hL1 := Bk.grownOwn hg1 hc.O hc.L (by decide)
    have hM1 := Bk.grownOwn hg1 hc.O hc.Mb (by decide)
    have hK1 := Bk.grownOwn hg1 hc.O hc.K (by decide)
    have hV1 := Bk.grownOwn hg1 hc.O hc.V (by decide)
    have hB1 := Bk.grownOwn hg1 hc.O hc.Bs (by decide)
    have hP1 := Bk.grownOwn hg1 hc.O hc.Ph (by decide)
    have hF1 := Fr.grown2 hg1 hc.O hc.F (Nat.le_refl _) (by decide)
    have HCF : Hid (CA w B M Lg Kb V Bs Ph adv now pend seq (.slice (some ⟨g1, 0, none⟩) (n + 1) x1) (n + 1) (xs ++ [.int .i64 i, .int .i64 now, .int .i64 ph]) i ph (W1.setCell ⟨Lg, 0, none⟩ (.slice (some ⟨g1, 0, none⟩) (n + 1) x1))) :=
      ⟨hL1.set 0 _, own_set ho1 hL1 (by decide) _ _, hM1.put (Bk.ne hM1 hL1 (by decide)), hK1.put (Bk.ne hK1 hL1 (by decide)), hV1.put (Bk.ne hV1 hL1 (by decide)), hB1.put (Bk.ne hB1 hL1 (by decide)), hP1.put (Bk.ne hP1 hL1 (by decide)), hF1.set hL1 hBL (by decide) _⟩
    have cL : W1.cell? ⟨Lg, 0, none⟩ = some lv := hL1.cell 0 rfl
    have fL := hL1.free 0
    have hS1 : (W1.cell? ⟨Kb, 0, none⟩ = some (.int .i64 i) ∧ W1.cell? ⟨V, 0, none⟩ = some (.pointer (some ⟨M, 0, none⟩)) ∧ W1.cell? ⟨Bs, 0, none⟩ = some (.int .u64 0) ∧ W1.cell? ⟨Bs, 1, none⟩ = some (.int .i64 0) ∧ W1.cell? ⟨Bs, 2, none⟩ = some (.pointer none) ∧ W1.cell? ⟨Ph, 0, none⟩ = some (.int .i64 ph)) := ⟨hK1.cell 0 rfl, hV1.cell 0 rfl, hB1.cell 0 rfl, hB1.cell 1 rfl, hB1.cell 2 rfl, hP1.cell 0 rfl⟩
    clear hL1 hM1 hK1 hV1 hB1 hP1 hF1 hc ho1 hg1 hn1' HNEW hHeld
    refine hK.out _ _ (hS1) (fun hHeld => ?_)
    clear hK K
    try simp only [Act.put, List.setIfInBounds_toArray, List.set_cons_zero, List.set_cons_succ]
    refine wpAnyH_ready (rs := [10]) (by kernel_rfl) (by simp) ?_
    refine AllReadyH.cons (o := { dst := none, op := Go.Op.store 30 (Go.Operand.tmp 0) (Go.Operand.tmp 14), type := 0, pos := "zz_law_s5106b.go:28", after := #[{ on := 9, ground := Go.Ground.data }, { on := 9, ground := Go.Ground.chain }, { on := 0, ground := Go.Ground.phase }, { on := 1, ground := Go.Ground.phase }, { on := 2, ground := Go.Ground.phase }, { on := 3, ground := Go.Ground.phase }, { on := 4, ground := Go.Ground.phase }, { on := 5, ground := Go.Ground.phase }, { on := 6, ground := Go.Ground.phase }, { on := 7, ground := Go.Ground.phase }, { on := 8, ground := Go.Ground.phase }, { on := 9, ground := Go.Ground.phase }], guard := none }) rfl (fun K hK => ?_) AllReadyH.nil
    go_simp
    refine hK.out _ _ (HCF.out.cells) (fun hHeld => ?_)
    clear hK K
    try simp only [Act.put, List.setIfInBounds_toArray, List.set_cons_zero, List.set_cons_succ]
    refine wpAnyH_done (by kernel_rfl) ?_ _
    go_wp2_with fail
    exact bodyPost_end (results_none rfl _ _ _) rfl ⟨rfl, _, HCF.out⟩
  · skip
    go_simp
    refine (now_any B M adv now pend seq _ hBM HC.out.Mb).mono ?_
    rintro e W1 ⟨rfl, hM1, hF1⟩
    have HC1 : Hid (CA w B M Lg Kb V Bs Ph adv now pend seq lv n xs i ph W1) := HC.out.fr hM1 hF1
    have hBs1 : B ≤ W1.heap.size := Nat.le_trans hBs hF1.size
    clear hM1 hF1 hHeld HC hBs
    go_wp2_with fail
    refine hK.out _ _ (HC1.out.cells) (fun hHeld => ?_)
    clear hK K
    try simp only [Act.put, List.setIfInBounds_toArray, List.set_cons_zero, List.set_cons_succ]
    clear W
    rename World => W
    rename Hid (CA w B M Lg Kb V Bs Ph adv now pend seq lv n xs i ph W) => HC
    rename B ≤ W.heap.size => hBs
    refine wpAnyH_ready (rs := [0, 5]) (by kernel_rfl) (by simp) ?_
    refine AllReadyH.cons (o := { dst := some 5, op := Go.Op.load 30 (Go.Operand.tmp 0), type := 30, pos := "zz_law_s5106b.go:28", after := #[], guard := none }) rfl (fun K hK => ?_) (AllReadyH.cons (o := { dst := some 10, op := Go.Op.call { callee := Go.Callee.value (Go.Operand.func 10), args := #[Go.Operand.tmp 8, Go.Operand.tmp 9], argTypes := #[27, 27] }, type := 34, pos := "zz_law_s5106b.go:28", after := #[{ on := 3, ground := Go.Ground.data }, { on := 4, ground := Go.Ground.data }, { on := 3, ground := Go.Ground.chain }], guard := none }) rfl (fun K hK => ?_) AllReadyH.nil)
    · skip
      have cL : W.cell? ⟨Lg, 0, none⟩ = some lv := HC.out.L.cell 0 rfl
      go_simp
      refine hK.out _ _ hHeld (fun hOld => ?_)
      clear hOld
      clear hK K
      try simp only [Act.put, List.setIfInBounds_toArray, List.set_cons_zero, List.set_cons_succ]
      clear cL
      refine wpAnyH_ready (rs := [5]) (by kernel_rfl) (by simp) ?_
      refine AllReadyH.cons (o := { dst := some 10, op := Go.Op.call { callee := Go.Callee.value (Go.Operand.func 10), args := #[Go.Operand.tmp 8, Go.Operand.tmp 9], argTypes := #[27, 27] }, type := 34, pos := "zz_law_s5106b.go:28", after := #[{ on := 3, ground := Go.Ground.data }, { on := 4, ground := Go.Ground.data }, { on := 3, ground := Go.Ground.chain }], guard := none }) rfl (fun K hK => ?_) AllReadyH.nil
      go_simp
      refine (HSUB.out _).mono ?_
      rintro e W1 ⟨rfl, hB1⟩
      have HC1 : Hid (CA w B M Lg Kb V Bs Ph adv now pend seq lv n xs i ph W1) := HC.out.below hB1
      have hBs1 : B ≤ W1.heap.size := Nat.le_trans hBs hB1.size
      clear hB1 hHeld HC hBs
      go_wp2_with fail
      refine hK.out _ _ (HC1.out.cells) (fun hHeld => ?_)
      clear hK K
      try simp only [Act.put, List.setIfInBounds_toArray, List.set_cons_zero, List.set_cons_succ]
      clear W
      rename World => W
      rename Hid (CA w B M Lg Kb V Bs Ph adv now pend seq lv n xs i ph W) => HC
      rename B ≤ W.heap.size => hBs
      refine wpAnyH_take (i := 7) (oi := { dst := some 12, op := Go.Op.build 39 #[(0, Go.Operand.tmp 6), (1, Go.Operand.tmp 10), (2, Go.Operand.tmp 11)], type := 39, pos := "zz_law_s5106b.go:28", after := #[{ on := 1, ground := Go.Ground.data }, { on := 5, ground := Go.Ground.data }, { on := 6, ground := Go.Ground.data }], guard := none }) (v := .agg #[.int .i64 i, .int .i64 now, .int .i64 ph]) rfl (by kernel_rfl) (by kernel_rfl) (by kernel_rfl) (fun _ _ _ h => h) (Or.inl ⟨by rfl, (fun w hSw => by (try dsimp only at hSw); go_simp)⟩) (by assumption) ?_
      try simp only [Act.put, List.setIfInBounds_toArray, List.set_cons_zero, List.set_cons_succ]
      refine wpAnyH_ready (rs := [8]) (by kernel_rfl) (by simp) ?_
      refine AllReadyH.cons (o := { dst := some 13, op := Go.Op.buildSlice 30 1 #[(0, Go.Operand.tmp 12)], type := 30, pos := "zz_law_s5106b.go:28", after := #[{ on := 7, ground := Go.Ground.data }], guard := none }) rfl (fun K hK => ?_) AllReadyH.nil
      go_simp
      have HCA : Hid (CA w B M Lg Kb V Bs Ph adv now pend seq lv n xs i ph (W.alloc (.cells #[.int .i64 i, .int .i64 now, .int .i64 ph] 39))) := HC.out.alloc _
      have hBA : B ≤ (W.alloc (.cells #[.int .i64 i, .int .i64 now, .int .i64 ph] 39)).heap.size := by simp; omega
      obtain ⟨g, hg⟩ : ∃ g, g = W.heap.size := ⟨_, rfl⟩
      have hnew : ∀ j u, [.int .i64 i, .int .i64 now, .int .i64 ph][j]? = some u → (W.alloc (.cells #[.int .i64 i, .int .i64 now, .int .i64 ph] 39)).cell? ((⟨g, 0, none⟩ : Addr).add j) = some u := fun j u hu => three_new _ _ _ _ _ _ hg j u hu
      rw [← hg]
      generalize (W.alloc (.cells #[.int .i64 i, .int .i64 now, .int .i64 ph] 39)) = W1 at HCA hBA hnew ⊢
      have HNEW : Hid (∀ j u, [.int .i64 i, .int .i64 now, .int .i64 ph][j]? = some u → W1.cell? ((⟨g, 0, none⟩ : Addr).add j) = some u) := hnew
      clear hnew hg HC hBs hHeld
      refine hK.out _ _ (HCA.out.cells) (fun hHeld => ?_)
      clear hK K
      try simp only [Act.put, List.setIfInBounds_toArray, List.set_cons_zero, List.set_cons_succ]
      clear W
      rename World => W
      rename Hid (CA w B M Lg Kb V Bs Ph adv now pend seq lv n xs i ph W) => HC
      rename B ≤ W.heap.size => hBs
      refine wpAnyH_ready (rs := [9]) (by kernel_rfl) (by simp) ?_
      refine AllReadyH.cons (o := { dst := some 14, op := Go.Op.call { callee := Go.Callee.builtin Go.Builtin.append, args := #[Go.Operand.tmp 5, Go.Operand.tmp 13], argTypes := #[30, 30] }, type := 30, pos := "zz_law_s5106b.go:28", after := #[{ on := 0, ground := Go.Ground.data }, { on := 8, ground := Go.Ground.data }, { on := 5, ground := Go.Ground.chain }], guard := none }) rfl (fun K hK => ?_) AllReadyH.nil
      rw [if_pos (by rfl)]
      refine wp_append_own _ _ _ 30 rfl B 39 i0 (.agg #[.int .i64 0, .int .i64 0, .int .i64 0]) 3 24 Yba.underlying30 hi hz0 hz1 hz2 rfl (by decide) lv n xs rfl HC.out.O ⟨g, 0, none⟩ 1 1 [.int .i64 i, .int .i64 now, .int .i64 ph] rfl rfl HNEW.out (by intro u hu; simp at hu; rcases hu with rfl | rfl | rfl <;> rfl) (by unfold maxLen; omega) (by omega) hBs ?_
      intro v1 W1 ho1 hg1 hn1'
      obtain ⟨g1, x1, hv1⟩ := Go.Joins.ownsRow_form ho1 (by omega)
      subst hv1
      have hc := HC.out
      have hL1 := Bk.grownOwn hg1 hc.O hc.L (by decide)
      have hM1 := Bk.grownOwn hg1 hc.O hc.Mb (by decide)
      have hK1 := Bk.grownOwn hg1 hc.O hc.K (by decide)
      have hV1 := Bk.grownOwn hg1 hc.O hc.V (by decide)
      have hB1 := Bk.grownOwn hg1 hc.O hc.Bs (by decide)
      have hP1 := Bk.grownOwn hg1 hc.O hc.Ph (by decide)
      have hF1 := Fr.grown2 hg1 hc.O hc.F (Nat.le_refl _) (by decide)
      have HCF : Hid (CA w B M Lg Kb V Bs Ph adv now pend seq (.slice (some ⟨g1, 0, none⟩) (n + 1) x1) (n + 1) (xs ++ [.int .i64 i, .int .i64 now, .int .i64 ph]) i ph (W1.setCell ⟨Lg, 0, none⟩ (.slice (some ⟨g1, 0, none⟩) (n + 1) x1))) :=
        ⟨hL1.set 0 _, own_set ho1 hL1 (by decide) _ _, hM1.put (Bk.ne hM1 hL1 (by decide)), hK1.put (Bk.ne hK1 hL1 (by decide)), hV1.put (Bk.ne hV1 hL1 (by decide)), hB1.put (Bk.ne hB1 hL1 (by decide)), hP1.put (Bk.ne hP1 hL1 (by decide)), hF1.set hL1 hBL (by decide) _⟩
      have cL : W1.cell? ⟨Lg, 0, none⟩ = some lv := hL1.cell 0 rfl
      have fL := hL1.free 0
      have hS1 : (W1.cell? ⟨Kb, 0, none⟩ = some (.int .i64 i) ∧ W1.cell? ⟨V, 0, none⟩ = some (.pointer (some ⟨M, 0, none⟩)) ∧ W1.cell? ⟨Bs, 0, none⟩ = some (.int .u64 0) ∧ W1.cell? ⟨Bs, 1, none⟩ = some (.int .i64 0) ∧ W1.cell? ⟨Bs, 2, none⟩ = some (.pointer none) ∧ W1.cell? ⟨Ph, 0, none⟩ = some (.int .i64 ph)) := ⟨hK1.cell 0 rfl, hV1.cell 0 rfl, hB1.cell 0 rfl, hB1.cell 1 rfl, hB1.cell 2 rfl, hP1.cell 0 rfl⟩
      clear hL1 hM1 hK1 hV1 hB1 hP1 hF1 hc ho1 hg1 hn1' HNEW hHeld
      refine hK.out _ _ (hS1) (fun hHeld => ?_)
      clear hK K
      try simp only [Act.put, List.setIfInBounds_toArray, List.set_cons_zero, List.set_cons_succ]
      refine wpAnyH_ready (rs := [10]) (by kernel_rfl) (by simp) ?_
      refine AllReadyH.cons (o := { dst := none, op := Go.Op.store 30 (Go.Operand.tmp 0) (Go.Operand.tmp 14), type := 0, pos := "zz_law_s5106b.go:28", after := #[{ on := 9, ground := Go.Ground.data }, { on := 9, ground := Go.Ground.chain }, { on := 0, ground := Go.Ground.phase }, { on := 1, ground := Go.Ground.phase }, { on := 2, ground := Go.Ground.phase }, { on := 3, ground := Go.Ground.phase }, { on := 4, ground := Go.Ground.phase }, { on := 5, ground := Go.Ground.phase }, { on := 6, ground := Go.Ground.phase }, { on := 7, ground := Go.Ground.phase }, { on := 8, ground := Go.Ground.phase }, { on := 9, ground := Go.Ground.phase }], guard := none }) rfl (fun K hK => ?_) AllReadyH.nil
      go_simp
      refine hK.out _ _ (HCF.out.cells) (fun hHeld => ?_)
      clear hK K
      try simp only [Act.put, List.setIfInBounds_toArray, List.set_cons_zero, List.set_cons_succ]
      refine wpAnyH_done (by kernel_rfl) ?_ _
      go_wp2_with fail
      exact bodyPost_end (results_none rfl _ _ _) rfl ⟨rfl, _, HCF.out⟩
    · skip
      go_simp
      refine (HSUB.out _).mono ?_
      rintro e W1 ⟨rfl, hB1⟩
      have HC1 : Hid (CA w B M Lg Kb V Bs Ph adv now pend seq lv n xs i ph W1) := HC.out.below hB1
      have hBs1 : B ≤ W1.heap.size := Nat.le_trans hBs hB1.size
      clear hB1 hHeld HC hBs
      go_wp2_with fail
      refine hK.out _ _ (HC1.out.cells) (fun hHeld => ?_)
      clear hK K
      try simp only [Act.put, List.setIfInBounds_toArray, List.set_cons_zero, List.set_cons_succ]
      clear W
      rename World => W
      rename Hid (CA w B M Lg Kb V Bs Ph adv now pend seq lv n xs i ph W) => HC
      rename B ≤ W.heap.size => hBs
      refine wpAnyH_take (i := 7) (oi := { dst := some 12, op := Go.Op.build 39 #[(0, Go.Operand.tmp 6), (1, Go.Operand.tmp 10), (2, Go.Operand.tmp 11)], type := 39, pos := "zz_law_s5106b.go:28", after := #[{ on := 1, ground := Go.Ground.data }, { on := 5, ground := Go.Ground.data }, { on := 6, ground := Go.Ground.data }], guard := none }) (v := .agg #[.int .i64 i, .int .i64 now, .int .i64 ph]) rfl (by kernel_rfl) (by kernel_rfl) (by kernel_rfl) (fun _ _ _ h => h) (Or.inl ⟨by rfl, (fun w hSw => by (try dsimp only at hSw); go_simp)⟩) (by assumption) ?_
      try simp only [Act.put, List.setIfInBounds_toArray, List.set_cons_zero, List.set_cons_succ]
      refine wpAnyH_ready (rs := [0, 8]) (by kernel_rfl) (by simp) ?_
      refine AllReadyH.cons (o := { dst := some 5, op := Go.Op.load 30 (Go.Operand.tmp 0), type := 30, pos := "zz_law_s5106b.go:28", after := #[], guard := none }) rfl (fun K hK => ?_) (AllReadyH.cons (o := { dst := some 13, op := Go.Op.buildSlice 30 1 #[(0, Go.Operand.tmp 12)], type := 30, pos := "zz_law_s5106b.go:28", after := #[{ on := 7, ground := Go.Ground.data }], guard := none }) rfl (fun K hK => ?_) AllReadyH.nil)
      · skip
        have cL : W.cell? ⟨Lg, 0, none⟩ = some lv := HC.out.L.cell 0 rfl
        go_simp
        refine hK.out _ _ hHeld (fun hOld => ?_)
        clear hOld
        clear hK K
        try simp only [Act.put, List.setIfInBounds_toArray, List.set_cons_zero, List.set_cons_succ]
        clear cL
        refine wpAnyH_ready (rs := [8]) (by kernel_rfl) (by simp) ?_
        refine AllReadyH.cons (o := { dst := some 13, op := Go.Op.buildSlice 30 1 #[(0, Go.Operand.tmp 12)], type := 30, pos := "zz_law_s5106b.go:28", after := #[{ on := 7, ground := Go.Ground.data }], guard := none }) rfl (fun K hK => ?_) AllReadyH.nil
        go_simp
        have HCA : Hid (CA w B M Lg Kb V Bs Ph adv now pend seq lv n xs i ph (W.alloc (.cells #[.int .i64 i, .int .i64 now, .int .i64 ph] 39))) := HC.out.alloc _
        have hBA : B ≤ (W.alloc (.cells #[.int .i64 i, .int .i64 now, .int .i64 ph] 39)).heap.size := by simp; omega
        obtain ⟨g, hg⟩ : ∃ g, g = W.heap.size := ⟨_, rfl⟩
        have hnew : ∀ j u, [.int .i64 i, .int .i64 now, .int .i64 ph][j]? = some u → (W.alloc (.cells #[.int .i64 i, .int .i64 now, .int .i64 ph] 39)).cell? ((⟨g, 0, none⟩ : Addr).add j) = some u := fun j u hu => three_new _ _ _ _ _ _ hg j u hu
        rw [← hg]
        generalize (W.alloc (.cells #[.int .i64 i, .int .i64 now, .int .i64 ph] 39)) = W1 at HCA hBA hnew ⊢
        have HNEW : Hid (∀ j u, [.int .i64 i, .int .i64 now, .int .i64 ph][j]? = some u → W1.cell? ((⟨g, 0, none⟩ : Addr).add j) = some u) := hnew
        clear hnew hg HC hBs hHeld
        refine hK.out _ _ (HCA.out.cells) (fun hHeld => ?_)
        clear hK K
        try simp only [Act.put, List.setIfInBounds_toArray, List.set_cons_zero, List.set_cons_succ]
        clear W
        rename World => W
        rename Hid (CA w B M Lg Kb V Bs Ph adv now pend seq lv n xs i ph W) => HC
        rename B ≤ W.heap.size => hBs
        refine wpAnyH_ready (rs := [9]) (by kernel_rfl) (by simp) ?_
        refine AllReadyH.cons (o := { dst := some 14, op := Go.Op.call { callee := Go.Callee.builtin Go.Builtin.append, args := #[Go.Operand.tmp 5, Go.Operand.tmp 13], argTypes := #[30, 30] }, type := 30, pos := "zz_law_s5106b.go:28", after := #[{ on := 0, ground := Go.Ground.data }, { on := 8, ground := Go.Ground.data }, { on := 5, ground := Go.Ground.chain }], guard := none }) rfl (fun K hK => ?_) AllReadyH.nil
        rw [if_pos (by rfl)]
        refine wp_append_own _ _ _ 30 rfl B 39 i0 (.agg #[.int .i64 0, .int .i64 0, .int .i64 0]) 3 24 Yba.underlying30 hi hz0 hz1 hz2 rfl (by decide) lv n xs rfl HC.out.O ⟨g, 0, none⟩ 1 1 [.int .i64 i, .int .i64 now, .int .i64 ph] rfl rfl HNEW.out (by intro u hu; simp at hu; rcases hu with rfl | rfl | rfl <;> rfl) (by unfold maxLen; omega) (by omega) hBs ?_
        intro v1 W1 ho1 hg1 hn1'
        obtain ⟨g1, x1, hv1⟩ := Go.Joins.ownsRow_form ho1 (by omega)
        subst hv1
        have hc := HC.out
        have hL1 := Bk.grownOwn hg1 hc.O hc.L (by decide)
        have hM1 := Bk.grownOwn hg1 hc.O hc.Mb (by decide)
        have hK1 := Bk.grownOwn hg1 hc.O hc.K (by decide)
        have hV1 := Bk.grownOwn hg1 hc.O hc.V (by decide)
        have hB1 := Bk.grownOwn hg1 hc.O hc.Bs (by decide)
        have hP1 := Bk.grownOwn hg1 hc.O hc.Ph (by decide)
        have hF1 := Fr.grown2 hg1 hc.O hc.F (Nat.le_refl _) (by decide)
        have HCF : Hid (CA w B M Lg Kb V Bs Ph adv now pend seq (.slice (some ⟨g1, 0, none⟩) (n + 1) x1) (n + 1) (xs ++ [.int .i64 i, .int .i64 now, .int .i64 ph]) i ph (W1.setCell ⟨Lg, 0, none⟩ (.slice (some ⟨g1, 0, none⟩) (n + 1) x1))) :=
          ⟨hL1.set 0 _, own_set ho1 hL1 (by decide) _ _, hM1.put (Bk.ne hM1 hL1 (by decide)), hK1.put (Bk.ne hK1 hL1 (by decide)), hV1.put (Bk.ne hV1 hL1 (by decide)), hB1.put (Bk.ne hB1 hL1 (by decide)), hP1.put (Bk.ne hP1 hL1 (by decide)), hF1.set hL1 hBL (by decide) _⟩
        have cL : W1.cell? ⟨Lg, 0, none⟩ = some lv := hL1.cell 0 rfl
        have fL := hL1.free 0
        have hS1 : (W1.cell? ⟨Kb, 0, none⟩ = some (.int .i64 i) ∧ W1.cell? ⟨V, 0, none⟩ = some (.pointer (some ⟨M, 0, none⟩)) ∧ W1.cell? ⟨Bs, 0, none⟩ = some (.int .u64 0) ∧ W1.cell? ⟨Bs, 1, none⟩ = some (.int .i64 0) ∧ W1.cell? ⟨Bs, 2, none⟩ = some (.pointer none) ∧ W1.cell? ⟨Ph, 0, none⟩ = some (.int .i64 ph)) := ⟨hK1.cell 0 rfl, hV1.cell 0 rfl, hB1.cell 0 rfl, hB1.cell 1 rfl, hB1.cell 2 rfl, hP1.cell 0 rfl⟩
        clear hL1 hM1 hK1 hV1 hB1 hP1 hF1 hc ho1 hg1 hn1' HNEW hHeld
        refine hK.out _ _ (hS1) (fun hHeld => ?_)
        clear hK K
        try simp only [Act.put, List.setIfInBounds_toArray, List.set_cons_zero, List.set_cons_succ]
        refine wpAnyH_ready (rs := [10]) (by kernel_rfl) (by simp) ?_
        refine AllReadyH.cons (o := { dst := none, op := Go.Op.store 30 (Go.Operand.tmp 0) (Go.Operand.tmp 14), type := 0, pos := "zz_law_s5106b.go:28", after := #[{ on := 9, ground := Go.Ground.data }, { on := 9, ground := Go.Ground.chain }, { on := 0, ground := Go.Ground.phase }, { on := 1, ground := Go.Ground.phase }, { on := 2, ground := Go.Ground.phase }, { on := 3, ground := Go.Ground.phase }, { on := 4, ground := Go.Ground.phase }, { on := 5, ground := Go.Ground.phase }, { on := 6, ground := Go.Ground.phase }, { on := 7, ground := Go.Ground.phase }, { on := 8, ground := Go.Ground.phase }, { on := 9, ground := Go.Ground.phase }], guard := none }) rfl (fun K hK => ?_) AllReadyH.nil
        go_simp
        refine hK.out _ _ (HCF.out.cells) (fun hHeld => ?_)
        clear hK K
        try simp only [Act.put, List.setIfInBounds_toArray, List.set_cons_zero, List.set_cons_succ]
        refine wpAnyH_done (by kernel_rfl) ?_ _
        go_wp2_with fail
        exact bodyPost_end (results_none rfl _ _ _) rfl ⟨rfl, _, HCF.out⟩
      · skip
        go_simp
        have HCA : Hid (CA w B M Lg Kb V Bs Ph adv now pend seq lv n xs i ph (W.alloc (.cells #[.int .i64 i, .int .i64 now, .int .i64 ph] 39))) := HC.out.alloc _
        have hBA : B ≤ (W.alloc (.cells #[.int .i64 i, .int .i64 now, .int .i64 ph] 39)).heap.size := by simp; omega
        obtain ⟨g, hg⟩ : ∃ g, g = W.heap.size := ⟨_, rfl⟩
        have hnew : ∀ j u, [.int .i64 i, .int .i64 now, .int .i64 ph][j]? = some u → (W.alloc (.cells #[.int .i64 i, .int .i64 now, .int .i64 ph] 39)).cell? ((⟨g, 0, none⟩ : Addr).add j) = some u := fun j u hu => three_new _ _ _ _ _ _ hg j u hu
        rw [← hg]
        generalize (W.alloc (.cells #[.int .i64 i, .int .i64 now, .int .i64 ph] 39)) = W1 at HCA hBA hnew ⊢
        have HNEW : Hid (∀ j u, [.int .i64 i, .int .i64 now, .int .i64 ph][j]? = some u → W1.cell? ((⟨g, 0, none⟩ : Addr).add j) = some u) := hnew
        clear hnew hg HC hBs hHeld
        refine hK.out _ _ (HCA.out.cells) (fun hHeld => ?_)
        clear hK K
        try simp only [Act.put, List.setIfInBounds_toArray, List.set_cons_zero, List.set_cons_succ]
        clear W
        rename World => W
        rename Hid (CA w B M Lg Kb V Bs Ph adv now pend seq lv n xs i ph W) => HC
        rename B ≤ W.heap.size => hBs
        refine wpAnyH_ready (rs := [0]) (by kernel_rfl) (by simp) ?_
        refine AllReadyH.cons (o := { dst := some 5, op := Go.Op.load 30 (Go.Operand.tmp 0), type := 30, pos := "zz_law_s5106b.go:28", after := #[], guard := none }) rfl (fun K hK => ?_) AllReadyH.nil
        have cL : W.cell? ⟨Lg, 0, none⟩ = some lv := HC.out.L.cell 0 rfl
        go_simp
        refine hK.out _ _ hHeld (fun hOld => ?_)
        clear hOld
        clear hK K
        try simp only [Act.put, List.setIfInBounds_toArray, List.set_cons_zero, List.set_cons_succ]
        clear cL
        refine wpAnyH_ready (rs := [9]) (by kernel_rfl) (by simp) ?_
        refine AllReadyH.cons (o := { dst := some 14, op := Go.Op.call { callee := Go.Callee.builtin Go.Builtin.append, args := #[Go.Operand.tmp 5, Go.Operand.tmp 13], argTypes := #[30, 30] }, type := 30, pos := "zz_law_s5106b.go:28", after := #[{ on := 0, ground := Go.Ground.data }, { on := 8, ground := Go.Ground.data }, { on := 5, ground := Go.Ground.chain }], guard := none }) rfl (fun K hK => ?_) AllReadyH.nil
        rw [if_pos (by rfl)]
        refine wp_append_own _ _ _ 30 rfl B 39 i0 (.agg #[.int .i64 0, .int .i64 0, .int .i64 0]) 3 24 Yba.underlying30 hi hz0 hz1 hz2 rfl (by decide) lv n xs rfl HC.out.O ⟨g, 0, none⟩ 1 1 [.int .i64 i, .int .i64 now, .int .i64 ph] rfl rfl HNEW.out (by intro u hu; simp at hu; rcases hu with rfl | rfl | rfl <;> rfl) (by unfold maxLen; omega) (by omega) hBs ?_
        intro v1 W1 ho1 hg1 hn1'
        obtain ⟨g1, x1, hv1⟩ := Go.Joins.ownsRow_form ho1 (by omega)
        subst hv1
        have hc := HC.out
        have hL1 := Bk.grownOwn hg1 hc.O hc.L (by decide)
        have hM1 := Bk.grownOwn hg1 hc.O hc.Mb (by decide)
        have hK1 := Bk.grownOwn hg1 hc.O hc.K (by decide)
        have hV1 := Bk.grownOwn hg1 hc.O hc.V (by decide)
        have hB1 := Bk.grownOwn hg1 hc.O hc.Bs (by decide)
        have hP1 := Bk.grownOwn hg1 hc.O hc.Ph (by decide)
        have hF1 := Fr.grown2 hg1 hc.O hc.F (Nat.le_refl _) (by decide)
        have HCF : Hid (CA w B M Lg Kb V Bs Ph adv now pend seq (.slice (some ⟨g1, 0, none⟩) (n + 1) x1) (n + 1) (xs ++ [.int .i64 i, .int .i64 now, .int .i64 ph]) i ph (W1.setCell ⟨Lg, 0, none⟩ (.slice (some ⟨g1, 0, none⟩) (n + 1) x1))) :=
          ⟨hL1.set 0 _, own_set ho1 hL1 (by decide) _ _, hM1.put (Bk.ne hM1 hL1 (by decide)), hK1.put (Bk.ne hK1 hL1 (by decide)), hV1.put (Bk.ne hV1 hL1 (by decide)), hB1.put (Bk.ne hB1 hL1 (by decide)), hP1.put (Bk.ne hP1 hL1 (by decide)), hF1.set hL1 hBL (by decide) _⟩
        have cL : W1.cell? ⟨Lg, 0, none⟩ = some lv := hL1.cell 0 rfl
        have fL := hL1.free 0
        have hS1 : (W1.cell? ⟨Kb, 0, none⟩ = some (.int .i64 i) ∧ W1.cell? ⟨V, 0, none⟩ = some (.pointer (some ⟨M, 0, none⟩)) ∧ W1.cell? ⟨Bs, 0, none⟩ = some (.int .u64 0) ∧ W1.cell? ⟨Bs, 1, none⟩ = some (.int .i64 0) ∧ W1.cell? ⟨Bs, 2, none⟩ = some (.pointer none) ∧ W1.cell? ⟨Ph, 0, none⟩ = some (.int .i64 ph)) := ⟨hK1.cell 0 rfl, hV1.cell 0 rfl, hB1.cell 0 rfl, hB1.cell 1 rfl, hB1.cell 2 rfl, hP1.cell 0 rfl⟩
        clear hL1 hM1 hK1 hV1 hB1 hP1 hF1 hc ho1 hg1 hn1' HNEW hHeld
        refine hK.out _ _ (hS1) (fun hHeld => ?_)
        clear hK K
        try simp only [Act.put, List.setIfInBounds_toArray, List.set_cons_zero, List.set_cons_succ]
        refine wpAnyH_ready (rs := [10]) (by kernel_rfl) (by simp) ?_
        refine AllReadyH.cons (o := { dst := none, op := Go.Op.store 30 (Go.Operand.tmp 0) (Go.Operand.tmp 14), type := 0, pos := "zz_law_s5106b.go:28", after := #[{ on := 9, ground := Go.Ground.data }, { on := 9, ground := Go.Ground.chain }, { on := 0, ground := Go.Ground.phase }, { on := 1, ground := Go.Ground.phase }, { on := 2, ground := Go.Ground.phase }, { on := 3, ground := Go.Ground.phase }, { on := 4, ground := Go.Ground.phase }, { on := 5, ground := Go.Ground.phase }, { on := 6, ground := Go.Ground.phase }, { on := 7, ground := Go.Ground.phase }, { on := 8, ground := Go.Ground.phase }, { on := 9, ground := Go.Ground.phase }], guard := none }) rfl (fun K hK => ?_) AllReadyH.nil
        go_simp
        refine hK.out _ _ (HCF.out.cells) (fun hHeld => ?_)
        clear hK K
        try simp only [Act.put, List.setIfInBounds_toArray, List.set_cons_zero, List.set_cons_succ]
        refine wpAnyH_done (by kernel_rfl) ?_ _
        go_wp2_with fail
        exact bodyPost_end (results_none rfl _ _ _) rfl ⟨rfl, _, HCF.out⟩
#print axioms clos
end Go.Proofs.Ybulkdask.Hp
