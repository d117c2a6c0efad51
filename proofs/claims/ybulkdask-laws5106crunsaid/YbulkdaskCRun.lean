import Derived.Test.YbulkdaskCEq
namespace Go.Proofs.Ybulkdask.Clk
open Go.RowKit Go.Proofs.Ybulkdask.Tm
set_option linter.unusedSimpArgs false
set_option linter.unusedVariables false

set_option maxHeartbeats 800000 in
set_option maxRecDepth 100000 in
theorem crun_ff (a0 a1 a2 a3 : Int) (ans : Bool) (w : World) (h0 : -9223372036854775808 ≤ a0) (h1 : a0 ≤ 9223372036854775807) :
    Calls Yba.prog 4 #[.int .i64 a0, .int .i64 a1, .int .i64 a2, .int .i64 a3, .bool false, .bool ans, .bool false] w fun e w' => e = .returned (.bool true) ∧ Below w.heap.size w w' := by
  obtain ⟨o, e1, o0, o1⟩ := o_num a0 h0 h1
  obtain ⟨t, e2, t1⟩ := t_num a1
  obtain ⟨p, e3, p0, p1⟩ := p_num a2
  obtain ⟨on, hon⟩ : ∃ on : Int, on = (0 + o) % 1000000000 := ⟨_, rfl⟩
  obtain ⟨os, hos⟩ : ∃ os : Int, os = 0 + (0 + o) / 1000000000 := ⟨_, rfl⟩
  obtain ⟨n, hn⟩ : ∃ n : Int, n = (on + t) % 1000000000 := ⟨_, rfl⟩
  obtain ⟨s, hs⟩ : ∃ s : Int, s = os + (on + t) / 1000000000 := ⟨_, rfl⟩
  have on0 : 0 ≤ on := by omega
  have on1 : on < 1000000000 := by omega
  have os0 : -1000000000 < os := by omega
  have os1 : os < 1000000000 := by omega
  have n0 : 0 ≤ n := by omega
  have n1 : n < 1000000000 := by omega
  have hD : (s - os) * 1000000000 + (n - on) = (t : Int) := by omega
  have HA1 : Hid (∀ w, Calls Yba.prog 12 #[.agg #[.int .u64 0, .int .i64 0, .pointer none], .int .i64 o] w fun e w' => e = .returned (.agg #[.int .u64 on, .int .i64 os, .pointer none]) ∧ Below w.heap.size w w') := by
    show ∀ w, _
    intro w
    have := add_any 0 0 o w (by omega) (by omega) (by omega) (by omega) (by omega) (by omega)
    rw [← hon, ← hos] at this
    exact this
  have HA2 : Hid (∀ w, Calls Yba.prog 12 #[.agg #[.int .u64 on, .int .i64 os, .pointer none], .int .i64 (t : Int)] w fun e w' => e = .returned (.agg #[.int .u64 n, .int .i64 s, .pointer none]) ∧ Below w.heap.size w w') := by
    show ∀ w, _
    intro w
    have := add_any on os t w on0 on1 os0 os1 (by omega) (by omega)
    rw [← hn, ← hs] at this
    exact this
  have HN : Hid (Nums n s on os p t) := ⟨n0, n1, on0, on1, os0, os1, hD, t1, p0, p1⟩
  clear hon hos hn hs on0 on1 os0 os1 n0 n1 hD o0 o1 h0 h1 t1 p0 p1
  go_enter Yba.func4, Yba.ntmps4
  go_wp2_with fail
  refine (HA1.out _).mono ?_
  rintro e w1 ⟨rfl, hB1⟩
  have HB1 : Hid (Below w.heap.size w w1) := hB1
  clear hB1
  go_wp2_with fail
  refine (HA2.out _).mono ?_
  rintro e w2 ⟨rfl, hB2⟩
  have HB2 : Hid (Below (w1.alloc (.cells #[.int .u64 on, .int .i64 os, .pointer none] 27)).heap.size (w1.alloc (.cells #[.int .u64 on, .int .i64 os, .pointer none] 27)) w2) := hB2
  have l0 : w2.cell? ⟨w1.heap.size, 0, none⟩ = some (.int .u64 on) := (hB2.cell (by simp)).trans (by simp)
  have l1 : w2.cell? ⟨w1.heap.size, 1, none⟩ = some (.int .i64 os) := (hB2.cell (by simp)).trans (by simp)
  have l2 : w2.cell? ⟨w1.heap.size, 2, none⟩ = some (.pointer none) := (hB2.cell (by simp)).trans (by simp)
  have hlt : w1.heap.size < w2.heap.size := by have := hB2.size; simp at this; omega
  have hO2 : Bk w2 w1.heap.size #[.int .u64 on, .int .i64 os, .pointer none] 27 := (Bk.new w1 _ _).below hB2 (by simp)
  have hOx := ((hO2.alloc (.cells #[.int .u64 n, .int .i64 s, .pointer none] 27)).alloc (.cells #[.int .u64 n, .int .i64 s, .pointer none, .int .i64 0, .slice none 0 0, .slice none 0 0, .slice none 0 0, .bool ans] 49)).alloc (.cells #[.slice none 0 0] 50)
  have x0 := hOx.cell 0 (v := .int .u64 on) rfl
  have x1 := hOx.cell 1 (v := .int .i64 os) rfl
  have x2 := hOx.cell 2 (v := .pointer none) rfl
  have HO2 : Hid (Bk w2 w1.heap.size #[.int .u64 on, .int .i64 os, .pointer none] 27) := hO2
  clear hB2 hOx hO2
  go_wp2_with (go_at_call 14; go_in)
  refine (run_nil HN.out (k := 0) (by omega) (bef5 w2 n s on os p ans false)).mono ?_
  rintro e w5 ⟨rfl, D, ds', fs', ss', hA⟩
  have c3 : w5.cell? ⟨w2.heap.size + 1, 3, none⟩ = some (.int .i64 1) := hA.clk.cell 3 rfl
  obtain ⟨g, y, hs1, hs2⟩ := hA.sn
  have v0 : w5.cell? ⟨w2.heap.size + 1 + 1, 0, none⟩ = some (.slice (some ⟨g, 0, none⟩) 1 y) := hs1.cell 0 rfl
  have v1 : w5.cell? ⟨g, 0, none⟩ = some (.int .u64 n) := hs2.cells rfl 0 _ rfl
  have v2 : w5.cell? ⟨g, 1, none⟩ = some (.int .i64 s) := hs2.cells rfl 1 _ rfl
  have v3 : w5.cell? ⟨g, 2, none⟩ = some (.pointer none) := hs2.cells rfl 2 _ rfl
  have v4 : w5.cell? ⟨w2.heap.size, 0, none⟩ = some (.int .u64 n) := hA.nw.cell 0 rfl
  have v5 : w5.cell? ⟨w2.heap.size, 1, none⟩ = some (.int .i64 s) := hA.nw.cell 1 rfl
  have v6 : w5.cell? ⟨w2.heap.size, 2, none⟩ = some (.pointer none) := hA.nw.cell 2 rfl
  have HA : Hid (Aft (W5 w2 n s on os p ans false) w5 (w2.heap.size + 1) w2.heap.size (w2.heap.size + 1) (w2.heap.size + 1 + 1) (w2.heap.size + 1 + 1 + 1) (w2.heap.size + 1 + 1 + 1 + 1) n s on os p ans false ds' fs' ss' (.iface 78 (.pointer (some ⟨D, 0, none⟩))) 4294967296 (0 + 1) ([] ++ [.int .i64 (((t / p + 1) * p - t : Nat) : Int)]) ([] ++ [runFn (w2.heap.size + 1 + 1 + 1 + 1)]) ([] ++ [.pointer (some ⟨D, 0, none⟩)])) := hA
  have HEQ : Hid (∀ w, Calls Yba.prog 17 #[.agg #[.int .u64 n, .int .i64 s, .pointer none], .agg #[.int .u64 n, .int .i64 s, .pointer none]] w fun e w' => e = .returned (.bool true) ∧ Below w.heap.size w w') := by
    show ∀ w, _
    intro w
    have hN := HN.out
    simpa using equal_any n s n s w hN.1 hN.2.1 hN.1 hN.2.1
  clear hA hs1 hs2 x0 x1 x2 l0 l1 l2
  go_upto_region 19 with fail
  go_cut [95] (fun v wc => v = .bool false ∧ Below w5.heap.size w5 wc)
  case first =>
    refine wp_region_held_drew (S := (fun w' => w'.cell? ⟨w2.heap.size + 1 + 1, 0, none⟩ = some (.slice (some ⟨g, 0, none⟩) 1 y) ∧ w'.cell? ⟨g, 0, none⟩ = some (.int .u64 n) ∧ w'.cell? ⟨g, 1, none⟩ = some (.int .i64 s) ∧ w'.cell? ⟨g, 2, none⟩ = some (.pointer none) ∧ w'.cell? ⟨w2.heap.size, 0, none⟩ = some (.int .u64 n) ∧ w'.cell? ⟨w2.heap.size, 1, none⟩ = some (.int .i64 s) ∧ w'.cell? ⟨w2.heap.size, 2, none⟩ = some (.pointer none))) (by kernel_rfl) ⟨v0, v1, v2, v3, v4, v5, v6⟩ (fun hHeld => ?_)
    refine wpAnyH_take (i := 0) (oi := { dst := some 85, op := Op.load 50 (Operand.tmp 21), type := 50, pos := "zz_law_s5106c.go:74", after := #[], guard := none }) (v := .slice (some ⟨g, 0, none⟩) 1 y) rfl (by kernel_rfl) (by kernel_rfl) (by kernel_rfl) (fun _ _ _ h => h) (Or.inl ⟨by rfl, (fun w hSw => by (try dsimp only at hSw); go_simp)⟩) (by assumption) ?_
    try simp only [Act.put, List.setIfInBounds_toArray, List.set_cons_zero, List.set_cons_succ]
    refine wpAnyH_take (i := 1) (oi := { dst := some 86, op := Op.call { callee := Callee.builtin Builtin.len, args := #[Operand.tmp 85], argTypes := #[50] }, type := 3, pos := "zz_law_s5106c.go:74", after := #[{ on := 0, ground := Ground.data }], guard := none }) (v := .int .i64 1) rfl (by kernel_rfl) (by kernel_rfl) (by kernel_rfl) (fun _ _ _ h => h) (Or.inl ⟨by rfl, (fun w hSw => by (try dsimp only at hSw); go_simp)⟩) (by assumption) ?_
    try simp only [Act.put, List.setIfInBounds_toArray, List.set_cons_zero, List.set_cons_succ]
    refine wpAnyH_take (i := 2) (oi := { dst := some 87, op := Op.binOp BinOp.neq 3 (Operand.tmp 86) (Operand.const (Value.int IntKind.i64 1)) 3, type := 4, pos := "zz_law_s5106c.go:74", after := #[{ on := 1, ground := Ground.data }], guard := none }) (v := .bool false) rfl (by kernel_rfl) (by kernel_rfl) (by kernel_rfl) (fun _ _ _ h => h) (Or.inl ⟨by rfl, (fun w hSw => by (try dsimp only at hSw); go_simp)⟩) (by assumption) ?_
    try simp only [Act.put, List.setIfInBounds_toArray, List.set_cons_zero, List.set_cons_succ]
    refine wpAnyH_take (i := 3) (oi := { dst := some 88, op := Op.move (Operand.tmp 87), type := 4, pos := "zz_law_s5106c.go:74", after := #[{ on := 2, ground := Ground.data }], guard := none }) (v := .bool false) rfl (by kernel_rfl) (by kernel_rfl) (by kernel_rfl) (fun _ _ _ h => h) (Or.inl ⟨by rfl, (fun w hSw => by (try dsimp only at hSw); go_simp)⟩) (by assumption) ?_
    try simp only [Act.put, List.setIfInBounds_toArray, List.set_cons_zero, List.set_cons_succ]
    refine wpAnyH_take (i := 4) (oi := { dst := some 89, op := Op.load 50 (Operand.tmp 21), type := 50, pos := "zz_law_s5106c.go:74", after := #[{ on := 3, ground := Ground.guard }], guard := some (3, false) }) (v := .slice (some ⟨g, 0, none⟩) 1 y) rfl (by kernel_rfl) (by kernel_rfl) (by kernel_rfl) (fun _ _ _ h => h) (Or.inl ⟨by rfl, (fun w hSw => by (try dsimp only at hSw); go_simp)⟩) (by assumption) ?_
    try simp only [Act.put, List.setIfInBounds_toArray, List.set_cons_zero, List.set_cons_succ]
    refine wpAnyH_take (i := 5) (oi := { dst := some 90, op := Op.indexAddr 50 (Operand.tmp 89) (Operand.const (Value.int IntKind.i64 0)), type := 0, pos := "zz_law_s5106c.go:74", after := #[{ on := 4, ground := Ground.data }, { on := 3, ground := Ground.guard }], guard := some (3, false) }) (v := .pointer (some ⟨g, 0, none⟩)) rfl (by kernel_rfl) (by kernel_rfl) (by kernel_rfl) (fun _ _ _ h => h) (Or.inl ⟨by rfl, (fun w hSw => by (try dsimp only at hSw); go_simp)⟩) (by assumption) ?_
    try simp only [Act.put, List.setIfInBounds_toArray, List.set_cons_zero, List.set_cons_succ]
    refine wpAnyH_take (i := 6) (oi := { dst := some 91, op := Op.load 27 (Operand.tmp 90), type := 27, pos := "zz_law_s5106c.go:74", after := #[{ on := 5, ground := Ground.data }, { on := 3, ground := Ground.guard }], guard := some (3, false) }) (v := .agg #[.int .u64 n, .int .i64 s, .pointer none]) rfl (by kernel_rfl) (by kernel_rfl) (by kernel_rfl) (fun _ _ _ h => h) (Or.inl ⟨by rfl, (fun w hSw => by (try dsimp only at hSw); go_simp)⟩) (by assumption) ?_
    try simp only [Act.put, List.setIfInBounds_toArray, List.set_cons_zero, List.set_cons_succ]
    refine wpAnyH_take (i := 7) (oi := { dst := some 92, op := Op.load 27 (Operand.tmp 19), type := 27, pos := "zz_law_s5106c.go:74", after := #[{ on := 3, ground := Ground.guard }], guard := some (3, false) }) (v := .agg #[.int .u64 n, .int .i64 s, .pointer none]) rfl (by kernel_rfl) (by kernel_rfl) (by kernel_rfl) (fun _ _ _ h => h) (Or.inl ⟨by rfl, (fun w hSw => by (try dsimp only at hSw); go_simp)⟩) (by assumption) ?_
    try simp only [Act.put, List.setIfInBounds_toArray, List.set_cons_zero, List.set_cons_succ]
    refine wpAnyH_ready (rs := [8]) (by kernel_rfl) (by simp) ?_
    refine AllReadyH.cons (o := { dst := some 93, op := Op.call { callee := Callee.value (Operand.func 17), args := #[Operand.tmp 91, Operand.tmp 92], argTypes := #[27, 27] }, type := 4, pos := "zz_law_s5106c.go:74", after := #[{ on := 6, ground := Ground.data }, { on := 7, ground := Ground.data }, { on := 3, ground := Ground.chain }, { on := 3, ground := Ground.guard }], guard := some (3, false) }) rfl (fun K hK => ?_) AllReadyH.nil
    go_simp
    refine (HEQ.out _).mono ?_
    rintro e w6 ⟨rfl, hB6⟩
    go_wp2_with fail
    refine hK.out _ _ ⟨(hB6.cell (World.block_lt_of_cell? _ _ v0)).trans v0, (hB6.cell (World.block_lt_of_cell? _ _ v1)).trans v1, (hB6.cell (World.block_lt_of_cell? _ _ v2)).trans v2, (hB6.cell (World.block_lt_of_cell? _ _ v3)).trans v3, (hB6.cell (World.block_lt_of_cell? _ _ v4)).trans v4, (hB6.cell (World.block_lt_of_cell? _ _ v5)).trans v5, (hB6.cell (World.block_lt_of_cell? _ _ v6)).trans v6⟩ (fun hHeld => ?_)
    clear hK K
    try simp only [Act.put, List.setIfInBounds_toArray, List.set_cons_zero, List.set_cons_succ]
    refine wpAnyH_take (i := 9) (oi := { dst := some 94, op := Op.unOp UnOp.not 4 (Operand.tmp 93), type := 4, pos := "zz_law_s5106c.go:74", after := #[{ on := 8, ground := Ground.data }, { on := 3, ground := Ground.guard }], guard := some (3, false) }) (v := .bool false) rfl (by kernel_rfl) (by kernel_rfl) (by kernel_rfl) (fun _ _ _ h => h) (Or.inl ⟨by rfl, (fun w hSw => by (try dsimp only at hSw); go_simp)⟩) (by assumption) ?_
    try simp only [Act.put, List.setIfInBounds_toArray, List.set_cons_zero, List.set_cons_succ]
    refine wpAnyH_take (i := 10) (oi := { dst := some 95, op := Op.pick (Operand.tmp 88) (Operand.const (Value.bool true)) (Operand.tmp 94), type := 4, pos := "zz_law_s5106c.go:74", after := #[{ on := 3, ground := Ground.data }, { on := 9, ground := Ground.data }], guard := none }) (v := .bool false) rfl (by kernel_rfl) (by kernel_rfl) (by kernel_rfl) (fun _ _ _ h => h) (Or.inl ⟨by rfl, (fun w hSw => by (try dsimp only at hSw); go_simp)⟩) (by assumption) ?_
    try simp only [Act.put, List.setIfInBounds_toArray, List.set_cons_zero, List.set_cons_succ]
    refine wpAnyH_done (by kernel_rfl) ?_ _
    go_wp2_with fail
    go_meet
    case rel => exact ⟨rfl, (Below.refl _ _).drew.trans hB6⟩
  case rest =>
    obtain ⟨rfl, hBc⟩ := hcut
    clear e1 e2 e3
    obtain ⟨Y, Z, e4, e5, hp0, hpn, Y0, Y1, Z0, Z1, hwant, X0, X1⟩ := nums_out HN.out
    have hAc := HA.out.below hBc (by have := HA.out.clk.lt; omega)
    have r1 := hAc.r1
    have r2 := hAc.r2
    have r3 := hAc.r3
    obtain ⟨gd, xd, hds⟩ := Go.Joins.ownsRow_form r1 (by omega)
    obtain ⟨gf, xf, hfs⟩ := Go.Joins.ownsRow_form r2 (by omega)
    obtain ⟨gs, xs, hss⟩ := Go.Joins.ownsRow_form r3 (by omega)
    subst hds hfs hss
    have i1 : wc.cell? ⟨gd, 0, none⟩ = some (.int .i64 (Z - (t : Int))) := by rw [← hwant]; exact r1.cells rfl 0 _ rfl
    have i2 : wc.cell? ⟨gf, 0, none⟩ = some (.func (.func 32) #[.pointer (some ⟨w2.heap.size + 1 + 1 + 1 + 1, 0, none⟩)] #[]) := r2.cells rfl 0 _ rfl
    have i3 : wc.cell? ⟨gs, 0, none⟩ = some (.pointer (some ⟨D, 0, none⟩)) := r3.cells rfl 0 _ rfl
    have k4 : wc.cell? ⟨w2.heap.size + 1, 4, none⟩ = some (.slice (some ⟨gd, 0, none⟩) 1 xd) := hAc.clk.cell 4 rfl
    have k5 : wc.cell? ⟨w2.heap.size + 1, 5, none⟩ = some (.slice (some ⟨gf, 0, none⟩) 1 xf) := hAc.clk.cell 5 rfl
    have k6 : wc.cell? ⟨w2.heap.size + 1, 6, none⟩ = some (.slice (some ⟨gs, 0, none⟩) 1 xs) := hAc.clk.cell 6 rfl
    have j6 : wc.cell? ⟨w2.heap.size + 1 + 1 + 1, 6, none⟩ = some (.pointer (some ⟨w2.heap.size + 1 + 1 + 1 + 1, 0, none⟩)) := hAc.jb.cell 6 rfl
    have t4 : wc.cell? ⟨w2.heap.size + 1 + 1 + 1 + 1, 4, none⟩ = some (.iface 78 (.pointer (some ⟨D, 0, none⟩))) := hAc.tim.cell 4 rfl
    have HLOW : Hid (Below w.heap.size w wc) := by
      have b1 := HB1.out
      have b2 := HB2.out
      have b3 := hAc.low
      have z1 := b1.size
      have z2 := b2.size
      simp at z2
      refine ((b1.alloc z1 _).trans (b2.mono (by simp; omega))).trans ?_
      refine Below.trans ?_ (b3.mono (by omega))
      exact (((((Below.refl _ _).alloc (by omega) _).alloc (by simp; omega) _).alloc (by simp; omega) _).alloc (by simp; omega) _).alloc (by simp; omega) _
    clear hAc r1 r2 r3 HA HB1 HB2 HO2 HEQ HA1 HA2 HN hwant v0 v1 v2 v3 v4 v5 v6 c3 hBc hlt
    have hfe := fn_eq ⟨w2.heap.size + 1 + 1 + 1 + 1, 0, none⟩
    have hie := if_neq ⟨D, 0, none⟩
    have hie' := if_same ⟨D, 0, none⟩
    go_upto_region 33 with fail
    go_quiet (fail)
    go_wp2_with fail
    go_ret
    exact ⟨rfl, HLOW.out.os, HLOW.out.tape, HLOW.out.output, HLOW.out.size, HLOW.out.block⟩
#print axioms crun_ff
end Go.Proofs.Ybulkdask.Clk
