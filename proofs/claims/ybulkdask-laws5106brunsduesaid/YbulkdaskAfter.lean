import Derived.Test.YbulkdaskMan
namespace Go.Proofs.Ybulkdask.Hp
open Go.RowKit Go.Proofs.Ybulkdask.Tm Go.Proofs.Ybulkdask.Clk Go.Proofs.Ybulkdask.Lk
set_option linter.unusedSimpArgs false
set_option linter.unusedVariables false

def upd {α : Type} (f : Nat → α) (n : Nat) (v : α) : Nat → α := fun i => if i = n then v else f i
theorem upd_same {α : Type} (f : Nat → α) (n : Nat) (v : α) : upd f n v n = v := by simp [upd]
theorem upd_lt {α : Type} (f : Nat → α) (n : Nat) (v : α) {i : Nat} (h : i < n) : upd f n v i = f i := by unfold upd; rw [if_neg (by omega)]

/-- One timer more. -/
theorem HeapAt.more {w : World} {B M : Nat} {P dd : Nat → Nat} {fv : Nat → Value} {N : Nat} {pend : Value} {h : List Nat} (H : HeapAt w B M P dd fv N pend h) (D : Nat) (f : Value) (hB : B ≤ D) (idx : Int)
    (hD : Bk w D #[.pointer (some ⟨M, 0, none⟩), .int .u64 (dd N : Int), .int .i64 0, .pointer none, .int .u64 (N : Int), f, .int .i64 idx] 95) : HeapAt w B M (upd P N D) dd (upd fv N f) (N + 1) pend h := by
  refine ⟨?_, ?_, fun i hi => Nat.lt_succ_of_lt (H.mem i hi)⟩
  · have e : h.map (ptr (upd P N D)) = h.map (ptr P) := by
      refine List.map_congr_left (fun i hi => ?_)
      unfold ptr
      rw [upd_lt P N D (H.mem i hi)]
    rw [e]
    exact H.own
  · intro i hi
    by_cases e : i = N
    · subst e
      refine ⟨by rw [upd_same]; exact hB, idx, ?_⟩
      rw [upd_same, upd_same]
      exact hD
    · have hlt : i < N := by omega
      obtain ⟨h1, id, h2⟩ := H.tim i hlt
      refine ⟨by rw [upd_lt _ _ _ hlt]; exact h1, id, ?_⟩
      rw [upd_lt _ _ _ hlt, upd_lt _ _ _ hlt]
      exact h2

set_option maxHeartbeats 1600000 in
set_option maxRecDepth 100000 in
/-- '(*Manual).AfterFunc' at the time 0. -/
theorem after_any (w : World) (B M : Nat) (P dd : Nat → Nat) (fv : Nat → Value) (N : Nat) (pend : Value) (h : List Nat) (fn : Fn) (b1 b2 : Array Value) (H : HeapAt w B M P dd fv N pend h) (hM : Bk w M (man M 0 0 0 pend (N : Int)) 91)
    (hn : h.length < 1024) (hN : N < 1024) (hB : B ≤ M) (hBw : B ≤ w.heap.size) (hd : ∀ i, dd i < 1000) (hh : Ord.isHeap dd h h.length) :
    Calls Yba.prog 6 #[.pointer (some ⟨M, 0, none⟩), .int .i64 (dd N : Int), .func fn b1 b2] w fun e w' => (∃ v, e = .returned v) ∧ ∃ D pend' h', h'.Perm (N :: h) ∧ Ord.isHeap dd h' h'.length ∧ HeapAt w' B M (upd P N D) dd (upd fv N (.func fn b1 b2)) (N + 1) pend' h' ∧ Bk w' M (man M 0 0 0 pend' ((N : Int) + 1)) 91 ∧ Fr B [91, 93, 95] w w' := by
  obtain ⟨d, hde⟩ : ∃ d : Int, d = (dd N : Int) := ⟨_, rfl⟩
  have hd0 : 0 ≤ d := by omega
  have hd1 : d < 1000 := by have := hd N; omega
  have HADD : Hid (∀ w, Calls Yba.prog 12 #[.agg #[.int .u64 0, .int .i64 0, .pointer none], .int .i64 d] w fun e w' => e = .returned (.agg #[.int .u64 d, .int .i64 0, .pointer none]) ∧ Below w.heap.size w w') := by
    show ∀ w, _
    intro w
    have := add_pos 0 0 d w (by decide) (by decide) (by decide) (by decide) hd0 (by omega)
    rw [show (0 + d) % 1000000000 = d by omega, show (0 : Int) + (0 + d) / 1000000000 = 0 by omega] at this
    exact this
  rw [← hde]
  have HDE : Hid (d = (dd N : Int)) := hde
  have h1 : Bk (w.setCell ⟨M, 2, none⟩ (.int .i32 1)) M (man M 0 1 0 pend (N : Int)) 91 := hM.set 2 _
  have HL : Hid (Calls Yba.prog 18 #[.pointer (some ⟨M, 2, none⟩)] w fun e w' => e = .returned (.tuple #[]) ∧ w' = w.setCell ⟨M, 2, none⟩ (.int .i32 1)) := lock ⟨M, 2, none⟩ _ (hM.cell 2 rfl) (hM.free 2)
  have hF1 : Fr B [91, 93, 95] w (w.setCell ⟨M, 2, none⟩ (.int .i32 1)) := (Fr.refl _ _ _).set hM hB (by decide) _
  have hH1 : HeapAt (w.setCell ⟨M, 2, none⟩ (.int .i32 1)) B M P dd fv N pend h := H.fr (((Fr.refl B [91] w).set hM hB (by decide) (.int .i32 1))) (by decide) (by decide)
  have HF1 : Hid (Fr B [91, 93, 95] w (w.setCell ⟨M, 2, none⟩ (.int .i32 1))) := hF1
  have HH1 : Hid (HeapAt (w.setCell ⟨M, 2, none⟩ (.int .i32 1)) B M P dd fv N pend h) := hH1
  have HM1 : Hid (Bk (w.setCell ⟨M, 2, none⟩ (.int .i32 1)) M (man M 0 1 0 pend (N : Int)) 91) := h1
  have HD : Hid (∀ i, dd i < 1000) := hd
  have HHP : Hid (Ord.isHeap dd h h.length) := hh
  have HN : Hid (h.length < 1024) := hn
  have HMM : Hid (Bk w M (man M 0 0 0 pend (N : Int)) 91) := hM
  clear hd hh hn H hF1 hH1 h1 hM hde
  go_enter_defers Yba.func6, Yba.ntmps6
  go_wp2_with fail
  refine HL.out.mono ?_
  rintro e w' ⟨rfl, hw'⟩
  have hM1 : Bk w' M (man M 0 1 0 pend (N : Int)) 91 := by rw [hw']; exact HM1.out
  have HF2 : Hid (Fr B [91, 93, 95] w w') := by rw [hw']; exact HF1.out
  have HH2 : Hid (HeapAt w' B M P dd fv N pend h) := by rw [hw']; exact HH1.out
  have HM2 : Hid (Bk w' M (man M 0 1 0 pend (N : Int)) 91) := hM1
  clear hw' HF1 HH1 HM1
  have c4 : w'.cell? ⟨M, 4, none⟩ = some (.int .u64 0) := hM1.cell 4 rfl
  have c5 : w'.cell? ⟨M, 5, none⟩ = some (.int .i64 0) := hM1.cell 5 rfl
  have c6 : w'.cell? ⟨M, 6, none⟩ = some (.pointer none) := hM1.cell 6 rfl
  have c8 : w'.cell? ⟨M, 8, none⟩ = some (.int .u64 (N : Int)) := hM1.cell 8 rfl
  have hlt := hM1.lt
  clear hM1
  go_upto_region 3 with fail
  go_cut [7] from 15 to 29 (fun v wc => ∃ D, v = .pointer (some ⟨D, 0, none⟩) ∧ w'.heap.size ≤ D ∧ Bk wc D #[.pointer (some ⟨M, 0, none⟩), .int .u64 d, .int .i64 0, .pointer none, .int .u64 (N : Int), .func fn b1 b2, .int .i64 0] 95 ∧ Below w'.heap.size w' wc)
  case first =>
    refine wp_region_noPanic ?_
    refine wp_region_held_drew (S := (fun w1 => w1.cell? ⟨M, 4, none⟩ = some (.int .u64 0) ∧ w1.cell? ⟨M, 5, none⟩ = some (.int .i64 0) ∧ w1.cell? ⟨M, 6, none⟩ = some (.pointer none) ∧ w1.cell? ⟨M, 8, none⟩ = some (.int .u64 (N : Int)))) (by kernel_rfl) (by go_keep) (fun hHeld => ?_)
    refine wpAnyH_take (i := 0) (oi := { dst := some 15, op := Go.Op.move (Go.Operand.tmp 0), type := 28, pos := "manual.go:54", after := #[], guard := none }) (v := .pointer (some ⟨M, 0, none⟩)) rfl (by kernel_rfl) (by kernel_rfl) (by kernel_rfl) (fun _ _ _ h => h) (Or.inl ⟨by rfl, (fun w hSw => by (try dsimp only at hSw); go_simp)⟩) (by assumption) ?_
    try simp only [Act.put, List.setIfInBounds_toArray, List.set_cons_zero, List.set_cons_succ]
    refine wpAnyH_take (i := 1) (oi := { dst := some 16, op := Go.Op.move (Go.Operand.tmp 0), type := 28, pos := "manual.go:54", after := #[], guard := none }) (v := .pointer (some ⟨M, 0, none⟩)) rfl (by kernel_rfl) (by kernel_rfl) (by kernel_rfl) (fun _ _ _ h => h) (Or.inl ⟨by rfl, (fun w hSw => by (try dsimp only at hSw); go_simp)⟩) (by assumption) ?_
    try simp only [Act.put, List.setIfInBounds_toArray, List.set_cons_zero, List.set_cons_succ]
    refine wpAnyH_take (i := 2) (oi := { dst := some 17, op := Go.Op.nilCheck (Go.Operand.tmp 16), type := 0, pos := "manual.go:54", after := #[{ on := 1, ground := Go.Ground.data }], guard := none }) (v := .pointer (some ⟨M, 0, none⟩)) rfl (by kernel_rfl) (by kernel_rfl) (by kernel_rfl) (fun _ _ _ h => h) (Or.inl ⟨by rfl, (fun w hSw => by (try dsimp only at hSw); go_simp)⟩) (by assumption) ?_
    try simp only [Act.put, List.setIfInBounds_toArray, List.set_cons_zero, List.set_cons_succ]
    refine wpAnyH_take (i := 3) (oi := { dst := some 18, op := Go.Op.fieldAddr 91 (Go.Operand.tmp 17) 2, type := 0, pos := "manual.go:54", after := #[{ on := 2, ground := Go.Ground.data }], guard := none }) (v := .pointer (some ⟨M, 4, none⟩)) rfl (by kernel_rfl) (by kernel_rfl) (by kernel_rfl) (fun _ _ _ h => h) (Or.inl ⟨by rfl, (fun w hSw => by (try dsimp only at hSw); go_simp)⟩) (by assumption) ?_
    try simp only [Act.put, List.setIfInBounds_toArray, List.set_cons_zero, List.set_cons_succ]
    refine wpAnyH_take (i := 4) (oi := { dst := some 19, op := Go.Op.load 27 (Go.Operand.tmp 18), type := 27, pos := "manual.go:54", after := #[{ on := 3, ground := Go.Ground.data }], guard := none }) (v := .agg #[.int .u64 0, .int .i64 0, .pointer none]) rfl (by kernel_rfl) (by kernel_rfl) (by kernel_rfl) (fun _ _ _ h => h) (Or.inl ⟨by rfl, (fun w hSw => by (try dsimp only at hSw); go_simp)⟩) (by assumption) ?_
    try simp only [Act.put, List.setIfInBounds_toArray, List.set_cons_zero, List.set_cons_succ]
    refine wpAnyH_take (i := 5) (oi := { dst := some 20, op := Go.Op.move (Go.Operand.tmp 1), type := 34, pos := "manual.go:54", after := #[], guard := none }) (v := .int .i64 d) rfl (by kernel_rfl) (by kernel_rfl) (by kernel_rfl) (fun _ _ _ h => h) (Or.inl ⟨by rfl, (fun w hSw => by (try dsimp only at hSw); go_simp)⟩) (by assumption) ?_
    try simp only [Act.put, List.setIfInBounds_toArray, List.set_cons_zero, List.set_cons_succ]
    refine wpAnyH_take (i := 8) (oi := { dst := some 23, op := Go.Op.move (Go.Operand.tmp 0), type := 28, pos := "manual.go:54", after := #[], guard := none }) (v := .pointer (some ⟨M, 0, none⟩)) rfl (by kernel_rfl) (by kernel_rfl) (by kernel_rfl) (fun _ _ _ h => h) (Or.inl ⟨by rfl, (fun w hSw => by (try dsimp only at hSw); go_simp)⟩) (by assumption) ?_
    try simp only [Act.put, List.setIfInBounds_toArray, List.set_cons_zero, List.set_cons_succ]
    refine wpAnyH_take (i := 9) (oi := { dst := some 24, op := Go.Op.nilCheck (Go.Operand.tmp 23), type := 0, pos := "manual.go:54", after := #[{ on := 8, ground := Go.Ground.data }], guard := none }) (v := .pointer (some ⟨M, 0, none⟩)) rfl (by kernel_rfl) (by kernel_rfl) (by kernel_rfl) (fun _ _ _ h => h) (Or.inl ⟨by rfl, (fun w hSw => by (try dsimp only at hSw); go_simp)⟩) (by assumption) ?_
    try simp only [Act.put, List.setIfInBounds_toArray, List.set_cons_zero, List.set_cons_succ]
    refine wpAnyH_take (i := 10) (oi := { dst := some 25, op := Go.Op.fieldAddr 91 (Go.Operand.tmp 24) 4, type := 0, pos := "manual.go:54", after := #[{ on := 9, ground := Go.Ground.data }], guard := none }) (v := .pointer (some ⟨M, 8, none⟩)) rfl (by kernel_rfl) (by kernel_rfl) (by kernel_rfl) (fun _ _ _ h => h) (Or.inl ⟨by rfl, (fun w hSw => by (try dsimp only at hSw); go_simp)⟩) (by assumption) ?_
    try simp only [Act.put, List.setIfInBounds_toArray, List.set_cons_zero, List.set_cons_succ]
    refine wpAnyH_take (i := 11) (oi := { dst := some 26, op := Go.Op.load 24 (Go.Operand.tmp 25), type := 24, pos := "manual.go:54", after := #[{ on := 10, ground := Go.Ground.data }], guard := none }) (v := .int .u64 (N : Int)) rfl (by kernel_rfl) (by kernel_rfl) (by kernel_rfl) (fun _ _ _ h => h) (Or.inl ⟨by rfl, (fun w hSw => by (try dsimp only at hSw); go_simp)⟩) (by assumption) ?_
    try simp only [Act.put, List.setIfInBounds_toArray, List.set_cons_zero, List.set_cons_succ]
    refine wpAnyH_take (i := 12) (oi := { dst := some 27, op := Go.Op.move (Go.Operand.tmp 2), type := 1, pos := "manual.go:54", after := #[], guard := none }) (v := .func fn b1 b2) rfl (by kernel_rfl) (by kernel_rfl) (by kernel_rfl) (fun _ _ _ h => h) (Or.inl ⟨by rfl, (fun w hSw => by (try dsimp only at hSw); go_simp)⟩) (by assumption) ?_
    try simp only [Act.put, List.setIfInBounds_toArray, List.set_cons_zero, List.set_cons_succ]
    refine wpAnyH_ready (rs := [6]) (by kernel_rfl) (by simp) ?_
    refine AllReadyH.cons (o := { dst := some 21, op := Go.Op.call { callee := Go.Callee.builtin Go.Builtin.max, args := #[Go.Operand.tmp 20, Go.Operand.const (Go.Value.int Go.IntKind.i64 0)], argTypes := #[34, 34] }, type := 34, pos := "manual.go:54", after := #[{ on := 5, ground := Go.Ground.data }], guard := none }) rfl (fun K hK => ?_) AllReadyH.nil
    go_simp
    rw [if_neg (show ¬ d < 0 by omega)]
    refine hK.out _ _ (hHeld) (fun hHeld => ?_)
    clear hK K
    try simp only [Act.put, List.setIfInBounds_toArray, List.set_cons_zero, List.set_cons_succ]
    refine wpAnyH_ready (rs := [7]) (by kernel_rfl) (by simp) ?_
    refine AllReadyH.cons (o := { dst := some 22, op := Go.Op.call { callee := Go.Callee.value (Go.Operand.func 12), args := #[Go.Operand.tmp 19, Go.Operand.tmp 21], argTypes := #[27, 34] }, type := 27, pos := "manual.go:54", after := #[{ on := 4, ground := Go.Ground.data }, { on := 6, ground := Go.Ground.data }], guard := none }) rfl (fun K hK => ?_) AllReadyH.nil
    go_simp
    refine (HADD.out _).mono ?_
    rintro e w2 ⟨rfl, hB2⟩
    have hB3 : Below w'.heap.size w' w2 := (Below.refl _ _).drew.trans hB2
    clear hB2
    go_wp2_with fail
    refine hK.out _ _ (⟨(hB3.cell hlt).trans c4, (hB3.cell hlt).trans c5, (hB3.cell hlt).trans c6, (hB3.cell hlt).trans c8⟩) (fun hHeld => ?_)
    clear hK K
    try simp only [Act.put, List.setIfInBounds_toArray, List.set_cons_zero, List.set_cons_succ]
    have hsz := hB3.size
    have HB3 : Hid (Below w'.heap.size w' w2) := hB3
    clear hB3
    refine wpAnyH_take (i := 13) (oi := { dst := some 28, op := Go.Op.build 95 #[(0, Go.Operand.tmp 15), (1, Go.Operand.tmp 22), (2, Go.Operand.tmp 26), (3, Go.Operand.tmp 27)], type := 95, pos := "manual.go:54", after := #[{ on := 0, ground := Go.Ground.data }, { on := 7, ground := Go.Ground.data }, { on := 11, ground := Go.Ground.data }, { on := 12, ground := Go.Ground.data }], guard := none }) (v := .agg #[.pointer (some ⟨M, 0, none⟩), .int .u64 d, .int .i64 0, .pointer none, .int .u64 (N : Int), .func fn b1 b2, .int .i64 0]) rfl (by kernel_rfl) (by kernel_rfl) (by kernel_rfl) (fun _ _ _ h => h) (Or.inl ⟨by rfl, (fun w hSw => by (try dsimp only at hSw); go_simp)⟩) (by assumption) ?_
    try simp only [Act.put, List.setIfInBounds_toArray, List.set_cons_zero, List.set_cons_succ]
    refine wpAnyH_ready (rs := [14]) (by kernel_rfl) (by simp) ?_
    refine AllReadyH.cons (o := { dst := some 29, op := Go.Op.box 95 (Go.Operand.tmp 28), type := 93, pos := "manual.go:54", after := #[{ on := 13, ground := Go.Ground.data }], guard := none }) rfl (fun K hK => ?_) AllReadyH.nil
    go_simp
    have hB4 : Below w'.heap.size w' (w2.alloc (.cells #[.pointer (some ⟨M, 0, none⟩), .int .u64 d, .int .i64 0, .pointer none, .int .u64 (N : Int), .func fn b1 b2, .int .i64 0] 95)) := HB3.out.alloc hsz _
    refine hK.out _ _ (⟨(hB4.cell hlt).trans c4, (hB4.cell hlt).trans c5, (hB4.cell hlt).trans c6, (hB4.cell hlt).trans c8⟩) (fun hHeld => ?_)
    clear hK K
    try simp only [Act.put, List.setIfInBounds_toArray, List.set_cons_zero, List.set_cons_succ]
    have HB4 : Hid (Below w'.heap.size w' (w2.alloc (.cells #[.pointer (some ⟨M, 0, none⟩), .int .u64 d, .int .i64 0, .pointer none, .int .u64 (N : Int), .func fn b1 b2, .int .i64 0] 95))) := hB4
    clear hB4
    refine wpAnyH_take (i := 15) (oi := { dst := some 7, op := Go.Op.assign (Go.Operand.tmp 29), type := 93, pos := "manual.go:54", after := #[{ on := 14, ground := Go.Ground.data }, { on := 7, ground := Go.Ground.chain }, { on := 0, ground := Go.Ground.phase }, { on := 1, ground := Go.Ground.phase }, { on := 2, ground := Go.Ground.phase }, { on := 3, ground := Go.Ground.phase }, { on := 4, ground := Go.Ground.phase }, { on := 5, ground := Go.Ground.phase }, { on := 6, ground := Go.Ground.phase }, { on := 7, ground := Go.Ground.phase }, { on := 8, ground := Go.Ground.phase }, { on := 9, ground := Go.Ground.phase }, { on := 10, ground := Go.Ground.phase }, { on := 11, ground := Go.Ground.phase }, { on := 12, ground := Go.Ground.phase }, { on := 13, ground := Go.Ground.phase }, { on := 14, ground := Go.Ground.phase }], guard := none }) (v := .pointer (some ⟨w2.heap.size, 0, none⟩)) rfl (by kernel_rfl) (by kernel_rfl) (by kernel_rfl) (fun _ _ _ h => h) (Or.inl ⟨by rfl, (fun w hSw => by (try dsimp only at hSw); go_simp)⟩) (by assumption) ?_
    try simp only [Act.put, List.setIfInBounds_toArray, List.set_cons_zero, List.set_cons_succ]
    refine wpAnyH_done (by kernel_rfl) ?_ _
    refine NoPanic.normal ?_
    go_wp2_with fail
    go_meet
    case rel => exact ⟨w2.heap.size, rfl, hsz, Bk.new _ _ _, HB4.out⟩
  case rest =>
    obtain ⟨D, rfl, hD, hbD, hB1⟩ := hcut
    have hMc : Bk wc M (man M 0 1 0 pend (N : Int)) 91 := HM2.out.below hB1 hlt
    have hHc : HeapAt wc B M P dd fv N pend h := HH2.out.below hB1
    have hFc : Fr B [91, 93, 95] w wc := HF2.out.below hB1
    have hM3 : Bk (wc.setCell ⟨M, 8, none⟩ (.int .u64 ((N : Int) + 1))) M (man M 0 1 0 pend ((N : Int) + 1)) 91 := hMc.set 8 _
    have hF3 : Fr B [91, 93, 95] w (wc.setCell ⟨M, 8, none⟩ (.int .u64 ((N : Int) + 1))) := hFc.set hMc hB (by decide) _
    have hH3 : HeapAt (wc.setCell ⟨M, 8, none⟩ (.int .u64 ((N : Int) + 1))) B M P dd fv N pend h := hHc.fr ((Fr.refl B [91] wc).set hMc hB (by decide) _) (by decide) (by decide)
    have hD3 : Bk (wc.setCell ⟨M, 8, none⟩ (.int .u64 ((N : Int) + 1))) D #[.pointer (some ⟨M, 0, none⟩), .int .u64 d, .int .i64 0, .pointer none, .int .u64 (N : Int), .func fn b1 b2, .int .i64 0] 95 := hbD.put (Bk.ne hbD hMc (by decide))
    rw [HDE.out] at hD3
    have hBw1 : B ≤ w'.heap.size := Nat.le_trans hBw HF2.out.size
    have HH3 : Hid (HeapAt (wc.setCell ⟨M, 8, none⟩ (.int .u64 ((N : Int) + 1))) B M (upd P N D) dd (upd fv N (.func fn b1 b2)) (N + 1) pend h) := hH3.more D _ (by omega) _ hD3
    have HF3 : Hid (Fr B [91, 93, 95] w (wc.setCell ⟨M, 8, none⟩ (.int .u64 ((N : Int) + 1)))) := hF3
    have HM3 : Hid (Bk (wc.setCell ⟨M, 8, none⟩ (.int .u64 ((N : Int) + 1))) M (man M 0 1 0 pend ((N : Int) + 1)) 91) := hM3
    have d8 : wc.cell? ⟨M, 8, none⟩ = some (.int .u64 (N : Int)) := hMc.cell 8 rfl
    have f8 := hMc.free 8
    have hwr : IntKind.u64.wrap ((N : Int) + 1) = (N : Int) + 1 := by rw [IntKind.wrap_u64]; omega
    have hBw3 : B ≤ wc.heap.size := Nat.le_trans hBw1 hB1.size
    clear hMc hHc hFc hM3 hF3 hH3 hD3 hbD hB1 HF2 HH2 HM2 c4 c5 c6 c8
    have HPX : (.pointer (some ⟨D, 0, none⟩) : Value) = ptr (upd P N D) N := by unfold ptr; rw [upd_same]
    have HPU : Hid (Calls Yba.prog 20 #[.iface 97 (.pointer (some ⟨M, 7, none⟩)), .iface 93 (.pointer (some ⟨D, 0, none⟩))] (wc.setCell ⟨M, 8, none⟩ (.int .u64 ((N : Int) + 1))) fun e w' => e = .returned (.tuple #[]) ∧ ∃ pend' h', h'.Perm (N :: h) ∧ Ord.isHeap dd h' h'.length ∧ HeapAt w' B M (upd P N D) dd (upd fv N (.func fn b1 b2)) (N + 1) pend' h' ∧ Bk w' M (man M 0 1 0 pend' ((N : Int) + 1)) 91 ∧ Fr B [91, 93, 95] (wc.setCell ⟨M, 8, none⟩ (.int .u64 ((N : Int) + 1))) w') := by
      rw [HPX]
      exact push_any _ B M (upd P N D) dd (upd fv N (.func fn b1 b2)) (N + 1) pend h N _ HH3.out HM3.out rfl (by omega) HN.out hB (by simpa using hBw3) HD.out HHP.out
    clear HPX
    go_wp2_with fail
    refine HPU.out.mono ?_
    rintro e w4 ⟨rfl, pend', h', hperm, hheap, hH4, hM4, hF4⟩
    have HE : Hid (h'.Perm (N :: h) ∧ Ord.isHeap dd h' h'.length) := ⟨hperm, hheap⟩
    have HH4 : Hid (HeapAt w4 B M (upd P N D) dd (upd fv N (.func fn b1 b2)) (N + 1) pend' h') := hH4
    have HM4 : Hid (Bk w4 M (man M 0 1 0 pend' ((N : Int) + 1)) 91) := hM4
    have HF4 : Hid (Fr B [91, 93, 95] w w4) := HF3.out.trans hF4
    clear hperm hheap hH4 hM4 hF4 HPU HF3 HM3 HH3
    go_wp2_with fail
    refine leaves_cons (f := 19) (args := #[.pointer (some ⟨M, 2, none⟩)]) (by simp) (by simp [go_sem]) ?_
    refine (unlockD _ _ _ (HM4.out.cell 2 rfl) (HM4.out.free 2)).mono ?_
    rintro e u' w'' ⟨rfl, rfl, rfl⟩
    refine ⟨_, results_tmp rfl _ _ _, ⟨_, rfl⟩, D, pend', h', HE.out.1, HE.out.2, ?_, HM4.out.set 2 _, HF4.out.set HM4.out hB (by decide) _⟩
    exact HH4.out.fr ((Fr.refl B [91] w4).set HM4.out hB (by decide) _) (by decide) (by decide)
end Go.Proofs.Ybulkdask.Hp
