import Derived.Test.YbulkdanoFmtBuf
namespace Go.Proofs.YbulkdanoFmt.Hdr
open Go.RowKit

theorem meth_write (a : Addr) (w : World) : (method 247 29 (.pointer (some a)) "Write").run Ybaf.prog w = .ok (34, .pointer (some a)) w := by kernel_rfl

set_option maxRecDepth 100000 in
set_option maxHeartbeats 800000 in
/-- '(*bufio.Writer).Flush' of L bytes into the empty sink. -/
theorem flush (b g s L N : Nat) (zs : List Int) (hL : zs.length = L) (hL0 : 0 < L) (hLN : L ≤ N) (hN : N ≤ 65536) (w : World)
    (b0 : w.cell? ⟨b, 0, none⟩ = some .nilIface) (b1 : w.cell? ⟨b, 1, none⟩ = some (.slice (some ⟨g, 0, none⟩) N N)) (b2 : w.cell? ⟨b, 2, none⟩ = some (.int .i64 (L : Int))) (b3 : w.cell? ⟨b, 3, none⟩ = some (.iface 29 (.pointer (some ⟨s, 0, none⟩)))) (bf : w.frozen? ⟨b, 2, none⟩ = false)
    (c0 : w.cell? ⟨s, 0, none⟩ = some (.slice none 0 0)) (c1 : w.cell? ⟨s, 1, none⟩ = some (.int .i64 0)) (c2 : w.cell? ⟨s, 2, none⟩ = some .nilIface)
    (f0 : w.frozen? ⟨s, 0, none⟩ = false) (f1 : w.frozen? ⟨s, 1, none⟩ = false) (hsg : g ≠ s) (hbs : b ≠ s) (hp : ∀ j (hj : j < zs.length), w.cell? ⟨g, j, none⟩ = some (.int .u8 zs[j])) :
    Calls Ybaf.prog 7 #[.pointer (some ⟨b, 0, none⟩)] w fun e w' => e = .returned .nilIface ∧
      ∃ v', w'.cell? ⟨s, 0, none⟩ = some v' ∧ w'.cell? ⟨s, 1, none⟩ = some (.int .i64 1) ∧ w'.ownsRow w.heap.size 5 1 v' L (u8s zs) ∧ Chg w w' (fun k => k = s ∨ k = b) := by
  have hsw := swrite s g N L zs hL hL0 (by omega) w.drew c0 c1 c2 f0 f1 hsg hp
  have HSW : Hid (Calls Ybaf.prog 34 #[.pointer (some ⟨s, 0, none⟩), .slice (some ⟨g, 0, none⟩) L N] w.drew fun e w' => e = .returned (.tuple #[.int .i64 (L : Int), .nilIface]) ∧
      ∃ v', w'.cell? ⟨s, 0, none⟩ = some v' ∧ w'.cell? ⟨s, 1, none⟩ = some (.int .i64 1) ∧ w'.ownsRow w.heap.size 5 1 v' L (u8s zs) ∧ w.drew.grownBy w' (some s)) := hsw
  clear hsw hp
  go_enter Ybaf.func7, Ybaf.ntmps7
  have hmw := meth_write
  have hb := World.block_lt_of_cell? w _ b0
  go_upto_region 5 with fail
  go_cut [3, 4] (fun n er wc => n = .int .i64 (L : Int) ∧ er = .nilIface ∧ ∃ v', wc.cell? ⟨s, 0, none⟩ = some v' ∧ wc.cell? ⟨s, 1, none⟩ = some (.int .i64 1) ∧ wc.ownsRow w.heap.size 5 1 v' L (u8s zs) ∧ w.drew.grownBy wc (some s))
  case first =>
    go_region_with (go_at_call 34; refine HSW.out.mono ?_; rintro e w' ⟨rfl, hv⟩)
    all_goals
      go_wp2_with fail
      go_meet
      case rel => exact ⟨rfl, rfl, by assumption⟩
  case rest =>
    obtain ⟨rfl, rfl, v', hv0, hv1, hown, hgr⟩ := hcut
    have d2 : wc.cell? ⟨b, 2, none⟩ = some (.int .i64 (L : Int)) := hgr.cell b2 (by simpa using hbs)
    have df : wc.frozen? ⟨b, 2, none⟩ = false := (World.frozen?_of_block (w := w) (hgr.block b hb (by simpa using hbs))).trans bf
    have HO : Hid (wc.ownsRow w.heap.size 5 1 v' L (u8s zs)) := hown
    have HG : Hid (w.drew.grownBy wc (some s)) := hgr
    have HV : Hid (wc.cell? ⟨s, 0, none⟩ = some v' ∧ wc.cell? ⟨s, 1, none⟩ = some (.int .i64 1)) := ⟨hv0, hv1⟩
    clear hown hgr hv0 hv1 HSW hmw
    go_wp2_with fail
    go_ret
    refine ⟨rfl, v', ?_, ?_, ownsRow_setCell_below HO.out (by exact hb) _, ?_⟩
    · rw [World.cell?_setCell_other _ _ _ _ (addr_ne hbs)]
      exact HV.out.1
    · rw [World.cell?_setCell_other _ _ _ _ (addr_ne hbs)]
      exact HV.out.2
    · have h1 : Chg w wc (fun k => some k = some s) := Chg.of_grown (a := w) ⟨HG.out.os, HG.out.tape, HG.out.output, HG.out.size, HG.out.block⟩
      refine (h1.trans (Chg.of_grown (grownBy_setCell wc ⟨b, 2, none⟩ (.int .i64 0)))).mono fun k _ hk => ?_
      rcases hk with h | ⟨_, h⟩
      · exact .inl (by simpa using h)
      · exact .inr (by simpa using h)
end Go.Proofs.YbulkdanoFmt.Hdr
