import Derived.Test.YbulkdanoFmtPut
import Derived.Deep.QuietTactic
import Derived.BigQuiet
import Derived.BigRegion
import Derived.RegionTactic
import Derived.Deep.RegionWith
import Derived.Deep.DeepCutAuto
namespace Go.Proofs.YbulkdanoFmt.Hdr
open Go.RowKit

/-- Of the old blocks only those of S may have turned. -/
structure Chg (w w' : World) (S : Nat → Prop) : Prop where
  os : w'.os = w.os
  tape : w'.tape = w.tape
  output : w'.output = w.output
  size : w.heap.size ≤ w'.heap.size
  block : ∀ k, k < w.heap.size → ¬ S k → w'.heap[k]? = w.heap[k]?

theorem Chg.refl (w : World) (S : Nat → Prop) : Chg w w S := ⟨rfl, rfl, rfl, Nat.le_refl _, fun _ _ _ => rfl⟩
theorem Chg.drewN (w : World) (q : Nat) (S : Nat → Prop) : Chg w (w.drewN q) S := ⟨rfl, rfl, rfl, Nat.le_refl _, fun _ _ _ => rfl⟩
theorem Chg.trans {a b c : World} {S T : Nat → Prop} (h1 : Chg a b S) (h2 : Chg b c T) : Chg a c (fun k => S k ∨ (k < a.heap.size ∧ T k)) :=
  ⟨h2.os.trans h1.os, h2.tape.trans h1.tape, h2.output.trans h1.output, Nat.le_trans h1.size h2.size, fun k hk hn => (h2.block k (Nat.lt_of_lt_of_le hk h1.size) (fun ht => hn (.inr ⟨hk, ht⟩))).trans (h1.block k hk (fun hs => hn (.inl hs)))⟩
theorem Chg.mono {a b : World} {S T : Nat → Prop} (h : Chg a b S) (hST : ∀ k, k < a.heap.size → S k → T k) : Chg a b T := ⟨h.os, h.tape, h.output, h.size, fun k hk hn => h.block k hk (fun hs => hn (hST k hk hs))⟩
theorem Chg.of_grown {a b : World} {row : Option Nat} (h : a.grownBy b row) : Chg a b (fun k => some k = row) := ⟨h.os, h.tape, h.output, h.size, fun k hk hn => h.block k hk hn⟩
theorem Chg.cell {w w' : World} {S : Nat → Prop} (h : Chg w w' S) {b o : Nat} {v : Value} (hc : w.cell? ⟨b, o, none⟩ = some v) (hb : ¬ S b) : w'.cell? ⟨b, o, none⟩ = some v :=
  (World.cell?_of_block (w := w) (h.block b (World.block_lt_of_cell? w _ hc) hb)).trans hc
theorem Chg.frozen {w w' : World} {S : Nat → Prop} (h : Chg w w' S) {b o : Nat} (hlt : b < w.heap.size) (hb : ¬ S b) : w'.frozen? ⟨b, o, none⟩ = w.frozen? ⟨b, o, none⟩ :=
  World.frozen?_of_block (w := w) (h.block b hlt hb)

theorem addr_ne {b o b' o' : Nat} (h : b ≠ b') : (⟨b, o, none⟩ : Addr) ≠ ⟨b', o', none⟩ := fun e => h (congrArg Addr.block e)
theorem add0 (g j : Nat) : (⟨g, 0, none⟩ : Addr).add j = ⟨g, j, none⟩ := by unfold Addr.add; split <;> simp_all
theorem u8s_lt {zs : List Int} {j : Nat} {u : Value} (hu : (u8s zs)[j]? = some u) : j < zs.length := by have := (List.getElem?_eq_some_iff.1 hu).1; simpa [u8s] using this
theorem info5 : (Ybaf.prog.info? 5).map (fun i => (i.zero, i.size, i.bytes)) = some (some (.int .u8 0), 1, 1) := by kernel_rfl
/-- N zero bytes. -/
def zz (N : Nat) : Array Value := madeCells #[.int .u8 0] N
theorem zz_eq (N : Nat) : zz N = (u8s (List.replicate N 0)).toArray := by
  unfold zz madeCells u8s
  apply Array.ext
  · simp
  · intro i h1 h2
    have e : i % 1 = 0 := Nat.mod_one i
    simp [e]

theorem make_bytes (N : Nat) (hN : N ≤ 65536) (w : World) : (Instr.makeSlice 30 (.int .i64 (N : Int)) (.int .i64 (N : Int))).run Ybaf.prog w = .ok (.slice (some ⟨w.heap.size, 0, none⟩) N N) (w.alloc (.cells (zz N) 5)) := by
  obtain ⟨i0, hi, hz0, hz1, hz2⟩ := info_parts info5
  have := run_make (P := Ybaf.prog) w 30 5 i0 (.int .u8 0) Ybaf.underlying30 hi hz0 .i64 .i64 (N : Int) (N : Int) (by omega) (by omega) (by rw [hz2]; omega) (by omega)
  rw [hz1] at this
  simpa [zz, Value.cells] using this

theorem no_bufio (p : Value) (w : World) : (Instr.typeAssert (.iface 29 p) 55 38 true).run Ybaf.prog w = .ok (.tuple #[.pointer none, .bool false]) w := by kernel_rfl

set_option maxRecDepth 100000 in
set_option maxHeartbeats 400000 in
/-- 'bufio.NewWriterSize' over a writer that is no *bufio.Writer. -/
theorem newSize (p : Value) (N : Nat) (hN0 : 0 < N) (hN : N ≤ 65536) (w : World) :
    Calls Ybaf.prog 13 #[.iface 29 p, .int .i64 (N : Int)] w fun e w' => e = .returned (.pointer (some ⟨w.heap.size + 1, 0, none⟩)) ∧
      w' = (w.alloc (.cells (zz N) 5)).alloc (.cells #[.nilIface, .slice (some ⟨w.heap.size, 0, none⟩) N N, .int .i64 0, .iface 29 p] 63) := by
  have hmk := make_bytes N hN
  have hta := no_bufio
  go_enter Ybaf.func13, Ybaf.ntmps13
  go_wp2
  go_ret
  exact ⟨rfl, rfl⟩

/-- '(*bufio.Writer).Available'. -/
theorem avail (b : Nat) (ga : Option Addr) (N k c : Nat) (hk : k ≤ N) (hN : N ≤ 65536) (w : World) (c1 : w.cell? ⟨b, 1, none⟩ = some (.slice ga N c)) (c2 : w.cell? ⟨b, 2, none⟩ = some (.int .i64 (k : Int))) :
    Calls Ybaf.prog 17 #[.pointer (some ⟨b, 0, none⟩)] w fun e w' => e = .returned (.int .i64 ((N : Int) - (k : Int))) ∧ ∃ q, w' = w.drewN q := by
  go_enter Ybaf.func17, Ybaf.ntmps17
  go_wp2
  go_quiet (fail)
  go_wp2
  go_ret
  exact ⟨rfl, _, rfl⟩

theorem isize5 : (Ybaf.prog.info? 5).map (·.size) = some 1 := by kernel_rfl

/-- '(*bufio.Writer).Write' of what fits into an empty buffer. -/
theorem bwrite (b g s3 : Nat) (t : TypeId) (N : Nat) (hN0 : 0 < N) (hN : N ≤ 65536) (zs : List Int) (L : Nat) (hL : zs.length = L) (hz : L ≤ N) (w : World)
    (c0 : w.cell? ⟨b, 0, none⟩ = some .nilIface) (c1 : w.cell? ⟨b, 1, none⟩ = some (.slice (some ⟨g, 0, none⟩) N N)) (c2 : w.cell? ⟨b, 2, none⟩ = some (.int .i64 0)) (f2 : w.frozen? ⟨b, 2, none⟩ = false)
    (hbg : b ≠ g) (hg : w.heap[g]? = some (.cells (zz N) 5 (0, 0))) (hr : Row w s3 t zs) :
    Calls Ybaf.prog 14 #[.pointer (some ⟨b, 0, none⟩), .slice (some ⟨s3, 0, none⟩) L L] w fun e w' => e = .returned (.tuple #[.int .i64 (L : Int), .nilIface]) ∧
      ∃ q, w' = ((w.drewN q).setRow g (splice (u8s (List.replicate N 0)) 0 (u8s zs)).toArray).setCell ⟨b, 2, none⟩ (.int .i64 (L : Int)) := by
  have HAV : Hid (Calls Ybaf.prog 17 #[.pointer (some ⟨b, 0, none⟩)] w fun e w' => e = .returned (.int .i64 (N : Int)) ∧ ∃ q, w' = w.drewN q) := by
    have := avail b (some ⟨g, 0, none⟩) N 0 N (Nat.zero_le _) hN w c1 c2
    show Calls _ _ _ _ _
    simpa using this
  go_enter Ybaf.func14, Ybaf.ntmps14
  go_wp2_with fail
  refine wp_loop_rounds 1 ?_
  rw [rounds_succ]
  go_wp2_with fail
  refine HAV.out.mono ?_
  rintro e w1 ⟨rfl, q, hq⟩
  have c0' : w1.cell? ⟨b, 0, none⟩ = some .nilIface := by rw [hq]; exact c0
  have c1' : w1.cell? ⟨b, 1, none⟩ = some (.slice (some ⟨g, 0, none⟩) N N) := by rw [hq]; exact c1
  have c2' : w1.cell? ⟨b, 2, none⟩ = some (.int .i64 0) := by rw [hq]; exact c2
  have f2' : w1.frozen? ⟨b, 2, none⟩ = false := by rw [hq]; exact f2
  have hg' : w1.heap[g]? = some (.cells (zz N) 5 (0, 0)) := by rw [hq]; exact hg
  have hr' : Row w1 s3 t zs := by rw [hq]; exact hr
  have hcp : ∀ ty, (Builtin.copy_ #[30, 30] ty #[.slice (some ⟨g, 0, none⟩) N N, .slice (some ⟨s3, 0, none⟩) L L]).run Ybaf.prog w1.drew = .ok (.int .i64 (L : Int)) (w1.drew.setRow g (splice (u8s (List.replicate N 0)) 0 (u8s zs)).toArray) := fun ty => by
    have hlen : (u8s zs).length = L := by simp [u8s, hL]
    have := run_copy_row (P := Ybaf.prog) w1.drew 30 30 ty 5 g 0 N N ⟨s3, 0, none⟩ L L (zz N) 5 (u8s zs) Ybaf.underlying30 isize5 hg' (by rw [hlen]; simp [Nat.min_eq_left hz])
      (fun j v hj => by
        have hj' := u8s_lt hj
        have hadd := add0 s3 j
        rw [hadd, World.cell?_drew, hr'.cell hj']
        simpa [u8s, List.getElem?_eq_getElem hj'] using hj)
      (by rw [hlen]; simp [zz, madeCells]; omega) (ints_oneCell .u8 _)
    rw [this, zz_eq]
    simp [goInt, hlen, splice]
  have HQ : Hid (w1 = w.drewN q) := hq
  clear hq c0 c1 c2 f2 hg hr hr' hg' HAV
  obtain ⟨R, hR⟩ : ∃ R, R = (splice (u8s (List.replicate N 0)) 0 (u8s zs)).toArray := ⟨_, rfl⟩
  rw [← hR] at hcp
  have HR : Hid (R = (splice (u8s (List.replicate N 0)) 0 (u8s zs)).toArray) := hR
  clear hR
  have s2 : (w1.drew.setRow g R).cell? ⟨b, 2, none⟩ = some (.int .i64 0) := (World.cell?_of_block (w := w1) (setRow_other w1.drew g b R hbg)).trans c2'
  have sf : (w1.drew.setRow g R).frozen? ⟨b, 2, none⟩ = false := (World.frozen?_of_block (w := w1) (setRow_other w1.drew g b R hbg)).trans f2'
  go_wp2_with fail
  go_region
  go_wp2_with fail
  go_ret2
  exact ⟨rfl, q + 1, by rw [HQ.out, HR.out]; rfl⟩

/-- '(*zzs5097cw).Write' at a sink that is empty. -/
theorem swrite (s g cap L : Nat) (zs : List Int) (hL : zs.length = L) (hL0 : 0 < L) (hL1 : L ≤ 65536) (w : World) (c0 : w.cell? ⟨s, 0, none⟩ = some (.slice none 0 0)) (c1 : w.cell? ⟨s, 1, none⟩ = some (.int .i64 0)) (c2 : w.cell? ⟨s, 2, none⟩ = some .nilIface)
    (f0 : w.frozen? ⟨s, 0, none⟩ = false) (f1 : w.frozen? ⟨s, 1, none⟩ = false) (hsg : g ≠ s) (hp : ∀ j (hj : j < zs.length), w.cell? ⟨g, j, none⟩ = some (.int .u8 zs[j])) :
    Calls Ybaf.prog 34 #[.pointer (some ⟨s, 0, none⟩), .slice (some ⟨g, 0, none⟩) L cap] w fun e w' => e = .returned (.tuple #[.int .i64 (L : Int), .nilIface]) ∧
      ∃ v', w'.cell? ⟨s, 0, none⟩ = some v' ∧ w'.cell? ⟨s, 1, none⟩ = some (.int .i64 1) ∧ w'.ownsRow w.heap.size 5 1 v' L (u8s zs) ∧ w.grownBy w' (some s) := by
  have hs := World.block_lt_of_cell? w _ c0
  obtain ⟨i0, hi, hz0, hz1, hz2⟩ := info_parts info5
  have hnews : ∀ j u, (u8s zs)[j]? = some u → (w.setCell ⟨s, 1, none⟩ (.int .i64 1)).cell? ((⟨g, 0, none⟩ : Addr).add j) = some u := by
    intro j u hu
    have hj' := u8s_lt hu
    have hadd := add0 g j
    rw [hadd, World.cell?_setCell_other _ _ _ _ (addr_ne (Ne.symm hsg)), hp j hj']
    simpa [u8s, List.getElem?_eq_getElem hj'] using hu
  have HN : Hid (∀ j u, (u8s zs)[j]? = some u → (w.setCell ⟨s, 1, none⟩ (.int .i64 1)).cell? ((⟨g, 0, none⟩ : Addr).add j) = some u) := hnews
  have HL : Hid (zs.length = L) := hL
  clear hnews hp hL
  go_enter Ybaf.func34, Ybaf.ntmps34
  go_wp2_with (at_builtin; refine wpList_append_own _ rfl _ _ 30 rfl w.heap.size 5 i0 (.int .u8 0) 1 1 Ybaf.underlying30 hi hz0 hz1 hz2 rfl (by decide) _ _ _ rfl (World.ownsRow_nil _ w.heap.size 5 1) ⟨g, 0, none⟩ L cap (u8s zs) rfl (by simp [u8s, HL.out]) HN.out (ints_oneCell .u8 _) (by unfold maxLen; omega) (by omega) (by simp) ?_)
  intro v' w1 hown1 hgrow1 hnil
  obtain ⟨g', cap', hv⟩ : ∃ g' cap', v' = .slice (some ⟨g', 0, none⟩) L cap' := by
    rcases hown1.2 with ⟨_, hn⟩ | ⟨g', cap', cur, hv, _⟩
    · omega
    · exact ⟨g', cap', by simpa using hv⟩
  have hown2 : w1.ownsRow w.heap.size 5 1 (.slice (some ⟨g', 0, none⟩) L cap') L (u8s zs) := by rw [← hv]; simpa using hown1
  have hlt := (hown2.lt g' rfl).1
  have g0 : w1.cell? ⟨s, 0, none⟩ = some (.slice none 0 0) := hgrow1.cell ((World.cell?_setCell_other _ _ _ _ (by simp)).trans c0) (by simp [Value.ownBlock])
  have g1 : w1.cell? ⟨s, 1, none⟩ = some (.int .i64 1) := hgrow1.cell (World.cell?_setCell_same _ _ _ c1) (by simp [Value.ownBlock])
  have gf : w1.frozen? ⟨s, 0, none⟩ = false := (World.frozen?_of_block (w := w.setCell ⟨s, 1, none⟩ (.int .i64 1)) (hgrow1.block s (by simpa using hs) (by simp [Value.ownBlock]))).trans (by simpa using f0)
  have hgr : w.grownBy w1 (some s) := grownBy_trans (grownBy_setCell w ⟨s, 1, none⟩ (.int .i64 1)) ⟨hgrow1.os, hgrow1.tape, hgrow1.output, hgrow1.size, fun k hk _ => hgrow1.block k hk (by simp [Value.ownBlock])⟩
  have HW : Hid (w1.ownsRow w.heap.size 5 1 (.slice (some ⟨g', 0, none⟩) L cap') L (u8s zs)) := hown2
  have HG : Hid (w.grownBy w1 (some s)) := hgr
  rw [hv]
  clear hown1 hgrow1 hnil hv hown2 hgr
  go_wp2_with fail
  go_ret2
  refine ⟨rfl, _, World.cell?_setCell_same _ _ _ g0, ?_, ?_, grownBy_trans HG.out (grownBy_setCell w1 ⟨s, 0, none⟩ _)⟩
  · rw [World.cell?_setCell_other _ _ _ _ (by simp)]
    exact g1
  · exact ownsRow_setCell_below HW.out (by exact hs) _

end Go.Proofs.YbulkdanoFmt.Hdr
