import Derived.Test.YbulkdaskRows
import Derived.Test.YbulkdaskBlk
import Derived.WalkKit
import Derived.ProofKit
namespace Go.Proofs.Ybulkdask.Clk
open Go.RowKit

/-- '(*zzs5106ctimer).Stop'. -/
theorem stop (b : Nat) (ans : Bool) (n : Int) (w : World) (h0 : 0 ≤ n) (h1 : n < 1000) (hb : Bk w b #[.bool ans, .int .i64 n] 77) :
    Calls Yba.prog 108 #[.pointer (some ⟨b, 0, none⟩)] w fun e w' => e = .returned (.bool ans) ∧ w' = w.setCell ⟨b, 1, none⟩ (.int .i64 (n + 1)) := by
  have c0 := hb.cell 0 rfl
  have c1 := hb.cell 1 rfl
  have f1 := hb.free 1
  have HB : Hid (Bk w b #[.bool ans, .int .i64 n] 77) := hb
  clear hb
  go_enter Yba.func108, Yba.ntmps108
  go_wp2
  go_ret
  exact ⟨rfl, rfl⟩

/-- '(*zzs5106cclock).Now'. -/
theorem now (B C : Nat) (n s : Int) (k : Int) (ds fs ss : Value) (ans : Bool) (w : World) (h0 : 0 ≤ k) (h1 : k < 1000) (hB : B ≤ C) (hb : Bk w C #[.int .u64 n, .int .i64 s, .pointer none, .int .i64 k, ds, fs, ss, .bool ans] 49) :
    Calls Yba.prog 99 #[.pointer (some ⟨C, 0, none⟩)] w fun e w' => e = .returned (.agg #[.int .u64 n, .int .i64 s, .pointer none]) ∧ Bk w' C #[.int .u64 n, .int .i64 s, .pointer none, .int .i64 (k + 1), ds, fs, ss, .bool ans] 49 ∧ Fr B [49] w w' := by
  have c0 := hb.cell 0 rfl
  have c1 := hb.cell 1 rfl
  have c2 := hb.cell 2 rfl
  have c3 := hb.cell 3 rfl
  have f3 := hb.free 3
  have hlt := hb.lt
  have HB : Hid (Bk w C #[.int .u64 n, .int .i64 s, .pointer none, .int .i64 k, ds, fs, ss, .bool ans] 49) := hb
  clear hb
  go_enter Yba.func99, Yba.ntmps99
  go_wp2
  refine bodyPost_ret (v := .agg #[.int .u64 n, .int .i64 s, .pointer none]) (by simp [results, Yba.results99, go_sem]) rfl ⟨rfl, ?_, ?_⟩
  · exact ((HB.out).set 3 _).alloc _
  · exact ((Fr.refl B [49] w).set HB.out hB (by decide) _).alloc _

/-- What the clock's block and its rows hold: k timers made. -/
structure ClkAt (w : World) (base C : Nat) (n s nows : Int) (ans : Bool) (dl fl sl : List Value) (k : Nat) : Prop where
  ex : ∃ ds fs ss, Bk w C #[.int .u64 n, .int .i64 s, .pointer none, .int .i64 nows, ds, fs, ss, .bool ans] 49 ∧ w.ownsRow base 34 1 ds k dl ∧ w.ownsRow base 1 1 fs k fl ∧ w.ownsRow base 78 1 ss k sl

theorem inf34 : ∃ i, Yba.prog.info? 34 = some i ∧ i.zero = some (.int .i64 0) ∧ i.size = 1 ∧ i.bytes = 8 := by
  have h : (Yba.prog.info? 34).map (fun i => (i.zero, i.size, i.bytes)) = some (some (.int .i64 0), 1, 8) := by kernel_rfl
  obtain ⟨i, hi, he⟩ := Option.map_eq_some_iff.1 h
  simp only [Prod.mk.injEq] at he
  exact ⟨i, hi, he.1, he.2.1, he.2.2⟩
theorem inf1 : ∃ i, Yba.prog.info? 1 = some i ∧ i.zero = some .nilFunc ∧ i.size = 1 ∧ i.bytes = 8 := by
  have h : (Yba.prog.info? 1).map (fun i => (i.zero, i.size, i.bytes)) = some (some .nilFunc, 1, 8) := by kernel_rfl
  obtain ⟨i, hi, he⟩ := Option.map_eq_some_iff.1 h
  simp only [Prod.mk.injEq] at he
  exact ⟨i, hi, he.1, he.2.1, he.2.2⟩
theorem inf78 : ∃ i, Yba.prog.info? 78 = some i ∧ i.zero = some (.pointer none) ∧ i.size = 1 ∧ i.bytes = 8 := by
  have h : (Yba.prog.info? 78).map (fun i => (i.zero, i.size, i.bytes)) = some (some (.pointer none), 1, 8) := by kernel_rfl
  obtain ⟨i, hi, he⟩ := Option.map_eq_some_iff.1 h
  simp only [Prod.mk.injEq] at he
  exact ⟨i, hi, he.1, he.2.1, he.2.2⟩

theorem one_new (w : World) (v : Value) (t : TypeId) (g : Nat) (hg : g = w.heap.size) (j : Nat) (u : Value) (h : [v][j]? = some u) : (w.alloc (.cells #[v] t)).cell? ((⟨g, 0, none⟩ : Addr).add j) = some u := by
  subst hg
  cases j with
  | zero =>
    simp only [List.getElem?_cons_zero, Option.some.injEq] at h
    subst h
    exact World.cell?_alloc_new w #[v] t 0
  | succ j => simp at h

set_option maxHeartbeats 800000 in
set_option maxRecDepth 100000 in
/-- '(*zzs5106cclock).AfterFunc'. -/
theorem afterFunc (B C : Nat) (n s nows : Int) (ds fs ss : Value) (ans : Bool) (dl fl sl : List Value) (k : Nat) (d : Int) (fn : Fn) (a1 a2 : Array Value) (w : World) (hk : k ≤ 1) (hB : B ≤ C) (hBw : B ≤ w.heap.size)
    (hb : Bk w C #[.int .u64 n, .int .i64 s, .pointer none, .int .i64 nows, ds, fs, ss, .bool ans] 49) (h1 : w.ownsRow B 34 1 ds k dl) (h2 : w.ownsRow B 1 1 fs k fl) (h3 : w.ownsRow B 78 1 ss k sl) :
    Calls Yba.prog 97 #[.pointer (some ⟨C, 0, none⟩), .int .i64 d, .func fn a1 a2] w fun e w' => ∃ D, e = .returned (.iface 78 (.pointer (some ⟨D, 0, none⟩))) ∧ w.heap.size ≤ D ∧ Bk w' D #[.bool ans, .int .i64 0] 77 ∧ ClkAt w' B C n s nows ans (dl ++ [.int .i64 d]) (fl ++ [.func fn a1 a2]) (sl ++ [.pointer (some ⟨D, 0, none⟩)]) (k + 1) ∧ Fr B [49, 34, 1, 78] w w' := by
  have c4 : w.cell? ⟨C, 4, none⟩ = some ds := hb.cell 4 rfl
  have c5 : w.cell? ⟨C, 5, none⟩ = some fs := hb.cell 5 rfl
  have c6 : w.cell? ⟨C, 6, none⟩ = some ss := hb.cell 6 rfl
  have c7 : w.cell? ⟨C, 7, none⟩ = some (.bool ans) := hb.cell 7 rfl
  have f4 := hb.free 4
  have hlt := hb.lt
  have HB : Hid (Bk w C #[.int .u64 n, .int .i64 s, .pointer none, .int .i64 nows, ds, fs, ss, .bool ans] 49) := hb
  have H1 : Hid (w.ownsRow B 34 1 ds k dl) := h1
  have H2 : Hid (w.ownsRow B 1 1 fs k fl) := h2
  have H3 : Hid (w.ownsRow B 78 1 ss k sl) := h3
  clear hb h1 h2 h3
  obtain ⟨i0, hi, hz0, hz1, hz2⟩ := inf34
  obtain ⟨i1, hi1, hz01, hz11, hz21⟩ := inf1
  obtain ⟨i2, hi2, hz02, hz12, hz22⟩ := inf78
  go_enter Yba.func97, Yba.ntmps97
  go_wp2_with (at_builtin; refine wpList_append_own _ rfl _ _ 45 rfl B 34 i0 (.int .i64 0) 1 8 Yba.underlying45 hi hz0 hz1 hz2 rfl (by decide) ds k dl rfl ((H1.out.alloc _).alloc _) ⟨w.heap.size + 1, 0, none⟩ 1 1 [.int .i64 d] rfl rfl (one_new _ _ _ _ (by simp)) (by intro u hu; simp at hu; subst hu; rfl) (by unfold maxLen; omega) (by omega) (by simp; omega) ?_)
  intro v1 w1 ho1 hg1 hn1
  obtain ⟨g1, x1, hv1⟩ := Go.Joins.ownsRow_form ho1 (by omega)
  subst hv1
  have hC1 : Bk w1 C #[.int .u64 n, .int .i64 s, .pointer none, .int .i64 nows, ds, fs, ss, .bool ans] 49 := Bk.grownOwn hg1 ((H1.out.alloc _).alloc _) ((HB.out.alloc _).alloc _) (by decide)
  have hD1 : Bk w1 w.heap.size #[.bool ans, .int .i64 0] 77 := Bk.grownOwn hg1 ((H1.out.alloc _).alloc _) ((Bk.new w _ _).alloc _) (by decide)
  have h21 := own_grown2 hg1 ((H1.out.alloc _).alloc _) ((H2.out.alloc _).alloc _) (by decide)
  have h31 := own_grown2 hg1 ((H1.out.alloc _).alloc _) ((H3.out.alloc _).alloc _) (by decide)
  have hf1 : Fr B [49, 34, 1, 78] w w1 := Fr.grown2 hg1 ((H1.out.alloc _).alloc _) (((Fr.refl _ _ _).alloc _).alloc _) (Nat.le_refl _) (by decide)
  have d4 : w1.cell? ⟨C, 4, none⟩ = some ds := hC1.cell 4 rfl
  have d5 : w1.cell? ⟨C, 5, none⟩ = some fs := hC1.cell 5 rfl
  have d6 : w1.cell? ⟨C, 6, none⟩ = some ss := hC1.cell 6 rfl
  have g4 := hC1.free 4
  have hlt1 := hC1.lt
  have hBw1 : B ≤ w1.heap.size := Nat.le_trans hBw hf1.size
  have HC1 : Hid (Bk (w1.setCell ⟨C, 4, none⟩ (.slice (some ⟨g1, 0, none⟩) (k + 1) x1)) C #[.int .u64 n, .int .i64 s, .pointer none, .int .i64 nows, (.slice (some ⟨g1, 0, none⟩) (k + 1) x1), fs, ss, .bool ans] 49) := hC1.set 4 (.slice (some ⟨g1, 0, none⟩) (k + 1) x1)
  have HD1 : Hid (Bk (w1.setCell ⟨C, 4, none⟩ (.slice (some ⟨g1, 0, none⟩) (k + 1) x1)) w.heap.size #[.bool ans, .int .i64 0] 77) := hD1.put (Bk.ne hD1 hC1 (by decide))
  have HO1 : Hid ((w1.setCell ⟨C, 4, none⟩ (.slice (some ⟨g1, 0, none⟩) (k + 1) x1)).ownsRow B 34 1 (.slice (some ⟨g1, 0, none⟩) (k + 1) x1) (k + 1) (dl ++ [.int .i64 d])) := own_set ho1 hC1 (by decide) _ _
  have H21 : Hid ((w1.setCell ⟨C, 4, none⟩ (.slice (some ⟨g1, 0, none⟩) (k + 1) x1)).ownsRow B 1 1 fs k fl) := own_set h21 hC1 (by decide) _ _
  have H31 : Hid ((w1.setCell ⟨C, 4, none⟩ (.slice (some ⟨g1, 0, none⟩) (k + 1) x1)).ownsRow B 78 1 ss k sl) := own_set h31 hC1 (by decide) _ _
  have HF1 : Hid (Fr B [49, 34, 1, 78] w (w1.setCell ⟨C, 4, none⟩ (.slice (some ⟨g1, 0, none⟩) (k + 1) x1))) := hf1.set hC1 hB (by decide) _
  clear hC1 hD1 h21 h31 hf1 ho1 hg1 hn1 HB H1 H2 H3 c4 c5 c6 c7 f4
  go_wp2_with (at_builtin; refine wpList_append_own _ rfl _ _ 46 rfl B 1 i1 .nilFunc 1 8 Yba.underlying46 hi1 hz01 hz11 hz21 rfl (by decide) fs k fl rfl (H21.out.alloc _) ⟨w1.heap.size, 0, none⟩ 1 1 [.func fn a1 a2] rfl rfl (one_new _ _ _ _ (by simp)) (by intro u hu; simp at hu; subst hu; rfl) (by unfold maxLen; omega) (by omega) (by simp; omega) ?_)
  intro v2 w2 ho2 hg2 hn2
  obtain ⟨g2, x2, hv2⟩ := Go.Joins.ownsRow_form ho2 (by omega)
  subst hv2
  have hC2 := Bk.grownOwn hg2 (H21.out.alloc _) (HC1.out.alloc _) (by decide)
  have hD2 := Bk.grownOwn hg2 (H21.out.alloc _) (HD1.out.alloc _) (by decide)
  have h12 := own_grown2 hg2 (H21.out.alloc _) (HO1.out.alloc _) (by decide)
  have h32 := own_grown2 hg2 (H21.out.alloc _) (H31.out.alloc _) (by decide)
  have hf2 := Fr.grown2 hg2 (H21.out.alloc _) (HF1.out.alloc _) (Nat.le_refl _) (by decide)
  have e5 : w2.cell? ⟨C, 5, none⟩ = some fs := hC2.cell 5 rfl
  have e6 : w2.cell? ⟨C, 6, none⟩ = some ss := hC2.cell 6 rfl
  have q5 := hC2.free 5
  have hlt2 := hC2.lt
  have hBw2 : B ≤ w2.heap.size := Nat.le_trans hBw hf2.size
  have HC2 : Hid (Bk (w2.setCell ⟨C, 5, none⟩ (.slice (some ⟨g2, 0, none⟩) (k + 1) x2)) C #[.int .u64 n, .int .i64 s, .pointer none, .int .i64 nows, (.slice (some ⟨g1, 0, none⟩) (k + 1) x1), (.slice (some ⟨g2, 0, none⟩) (k + 1) x2), ss, .bool ans] 49) := hC2.set 5 (.slice (some ⟨g2, 0, none⟩) (k + 1) x2)
  have HD2 : Hid (Bk (w2.setCell ⟨C, 5, none⟩ (.slice (some ⟨g2, 0, none⟩) (k + 1) x2)) w.heap.size #[.bool ans, .int .i64 0] 77) := hD2.put (Bk.ne hD2 hC2 (by decide))
  have HO2 : Hid ((w2.setCell ⟨C, 5, none⟩ (.slice (some ⟨g2, 0, none⟩) (k + 1) x2)).ownsRow B 1 1 (.slice (some ⟨g2, 0, none⟩) (k + 1) x2) (k + 1) (fl ++ [.func fn a1 a2])) := own_set ho2 hC2 (by decide) _ _
  have H12 : Hid ((w2.setCell ⟨C, 5, none⟩ (.slice (some ⟨g2, 0, none⟩) (k + 1) x2)).ownsRow B 34 1 (.slice (some ⟨g1, 0, none⟩) (k + 1) x1) (k + 1) (dl ++ [.int .i64 d])) := own_set h12 hC2 (by decide) _ _
  have H32 : Hid ((w2.setCell ⟨C, 5, none⟩ (.slice (some ⟨g2, 0, none⟩) (k + 1) x2)).ownsRow B 78 1 ss k sl) := own_set h32 hC2 (by decide) _ _
  have HF2 : Hid (Fr B [49, 34, 1, 78] w (w2.setCell ⟨C, 5, none⟩ (.slice (some ⟨g2, 0, none⟩) (k + 1) x2))) := hf2.set hC2 hB (by decide) _
  clear hC2 hD2 h12 h32 hf2 ho2 hg2 hn2 HC1 HD1 HO1 H21 H31 HF1 d4 d5 d6 g4
  go_wp2_with (at_builtin; refine wpList_append_own _ rfl _ _ 47 rfl B 78 i2 (.pointer none) 1 8 Yba.underlying47 hi2 hz02 hz12 hz22 rfl (by decide) ss k sl rfl (H32.out.alloc _) ⟨w2.heap.size, 0, none⟩ 1 1 [.pointer (some ⟨w.heap.size, 0, none⟩)] rfl rfl (one_new _ _ _ _ (by simp)) (by intro u hu; simp at hu; subst hu; rfl) (by unfold maxLen; omega) (by omega) (by simp; omega) ?_)
  intro v3 w3 ho3 hg3 hn3
  obtain ⟨g3, x3, hv3⟩ := Go.Joins.ownsRow_form ho3 (by omega)
  subst hv3
  have hC3 := Bk.grownOwn hg3 (H32.out.alloc _) (HC2.out.alloc _) (by decide)
  have hD3 := Bk.grownOwn hg3 (H32.out.alloc _) (HD2.out.alloc _) (by decide)
  have h13 := own_grown2 hg3 (H32.out.alloc _) (H12.out.alloc _) (by decide)
  have h23 := own_grown2 hg3 (H32.out.alloc _) (HO2.out.alloc _) (by decide)
  have hf3 := Fr.grown2 hg3 (H32.out.alloc _) (HF2.out.alloc _) (Nat.le_refl _) (by decide)
  have r6 : w3.cell? ⟨C, 6, none⟩ = some ss := hC3.cell 6 rfl
  have s6 := hC3.free 6
  have HC3 : Hid (Bk (w3.setCell ⟨C, 6, none⟩ (.slice (some ⟨g3, 0, none⟩) (k + 1) x3)) C #[.int .u64 n, .int .i64 s, .pointer none, .int .i64 nows, (.slice (some ⟨g1, 0, none⟩) (k + 1) x1), (.slice (some ⟨g2, 0, none⟩) (k + 1) x2), (.slice (some ⟨g3, 0, none⟩) (k + 1) x3), .bool ans] 49) := hC3.set 6 (.slice (some ⟨g3, 0, none⟩) (k + 1) x3)
  have HD3 : Hid (Bk (w3.setCell ⟨C, 6, none⟩ (.slice (some ⟨g3, 0, none⟩) (k + 1) x3)) w.heap.size #[.bool ans, .int .i64 0] 77) := hD3.put (Bk.ne hD3 hC3 (by decide))
  have HO3 : Hid ((w3.setCell ⟨C, 6, none⟩ (.slice (some ⟨g3, 0, none⟩) (k + 1) x3)).ownsRow B 78 1 (.slice (some ⟨g3, 0, none⟩) (k + 1) x3) (k + 1) (sl ++ [.pointer (some ⟨w.heap.size, 0, none⟩)])) := own_set ho3 hC3 (by decide) _ _
  have H13 : Hid ((w3.setCell ⟨C, 6, none⟩ (.slice (some ⟨g3, 0, none⟩) (k + 1) x3)).ownsRow B 34 1 (.slice (some ⟨g1, 0, none⟩) (k + 1) x1) (k + 1) (dl ++ [.int .i64 d])) := own_set h13 hC3 (by decide) _ _
  have H23 : Hid ((w3.setCell ⟨C, 6, none⟩ (.slice (some ⟨g3, 0, none⟩) (k + 1) x3)).ownsRow B 1 1 (.slice (some ⟨g2, 0, none⟩) (k + 1) x2) (k + 1) (fl ++ [.func fn a1 a2])) := own_set h23 hC3 (by decide) _ _
  have HF3 : Hid (Fr B [49, 34, 1, 78] w (w3.setCell ⟨C, 6, none⟩ (.slice (some ⟨g3, 0, none⟩) (k + 1) x3))) := hf3.set hC3 hB (by decide) _
  clear hC3 hD3 h13 h23 hf3 ho3 hg3 hn3 HC2 HD2 HO2 H12 H32 HF2
  go_wp2_with fail
  go_ret
  exact ⟨w.heap.size, rfl, Nat.le_refl _, HD3.out, ⟨(.slice (some ⟨g1, 0, none⟩) (k + 1) x1), (.slice (some ⟨g2, 0, none⟩) (k + 1) x2), (.slice (some ⟨g3, 0, none⟩) (k + 1) x3), HC3.out, H13.out, H23.out, HO3.out⟩, HF3.out⟩
#print axioms afterFunc
end Go.Proofs.Ybulkdask.Clk
