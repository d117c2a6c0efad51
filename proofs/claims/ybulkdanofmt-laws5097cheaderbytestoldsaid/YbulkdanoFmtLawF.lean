import Derived.Test.YbulkdanoFmtLaw
import Derived.Test.YbulkdanoFmtNewF
namespace Go.Proofs.YbulkdanoFmt.Hdr
open Go.RowKit

set_option maxRecDepth 100000 in
set_option maxHeartbeats 1600000 in
theorem law_false (nano : Bool) (vmaj vmin zone sig snap link : Int) (w : World)
    (a0 : 0 ≤ vmaj) (a1 : vmaj < 65536) (b0 : 0 ≤ vmin) (b1 : vmin < 65536) (c0 : 0 ≤ zone) (c1 : zone < 4294967296) (d0 : 0 ≤ sig) (d1 : sig < 4294967296) (e0 : 0 ≤ snap) (e1 : snap < 4294967296) (g0 : 0 ≤ link) (g1 : link < 4294967296) :
    Calls Ybaf.prog 3 #[.bool false, .bool nano, .int .u16 vmaj, .int .u16 vmin, .int .u32 zone, .int .u32 sig, .int .u32 snap, .int .u32 link] w fun e w' => e = .returned (.bool true) ∧ Below w.heap.size w w' := by
  have hneq := neq_false
  go_enter Ybaf.func3, Ybaf.ntmps3
  go_wp2_with fail
  refine (order_false w).mono ?_
  rintro e w' ⟨rfl, hw'⟩
  rw [hw']
  clear hw'
  go_wp2_with fail
  refine (newWriter_false (w.heap.size + 1) nano vmaj vmin zone sig snap link _ a0 a1 b0 b1 c0 c1 d0 d1 e0 e1 g0 g1).mono ?_
  rintro e x2 ⟨N, b, g, O, hN24, hN65, rfl, hA⟩
  have hB := beg_start w 53 (.cells #[.iface 53 (.agg #[]), .bool nano, .int .u16 vmaj, .int .u16 vmin, .int .u32 zone, .int .u32 sig, .int .u32 snap, .int .u32 link] 28)
  obtain ⟨x1, hx1⟩ : ∃ x1, x1 = ((w.alloc (.cells #[.iface 53 (.agg #[]), .bool nano, .int .u16 vmaj, .int .u16 vmin, .int .u32 zone, .int .u32 sig, .int .u32 snap, .int .u32 link] 28)).alloc (.cells #[.slice none 0 0, .int .i64 0, .nilIface] 34)) := ⟨_, rfl⟩
  rw [← hx1] at hA hB
  clear hx1
  have hsz := hB.sz
  have hlb := hA.lb
  have hlg := hA.lg
  have hno : ∀ k : Nat, ¬ False := fun _ h => h
  have k0 := hA.chg.cell hB.c0 (hno 0)
  have k1 := hA.chg.cell hB.c1 (hno 0)
  have k2 := hA.chg.cell hB.c2 (hno 0)
  have kf0 : x2.frozen? ⟨w.heap.size + 1, 0, none⟩ = false := (hA.chg.frozen (by omega) (hno 0)).trans (hB.fr 0)
  have kf1 : x2.frozen? ⟨w.heap.size + 1, 1, none⟩ = false := (hA.chg.frozen (by omega) (hno 0)).trans (hB.fr 1)
  have hbel2 : Below w.heap.size w x2 := below_chg hB.bel hA.chg (by omega) (fun k _ => hno k)
  have HFL : Hid (Calls Ybaf.prog 7 #[.pointer (some ⟨b, 0, none⟩)] x2 fun e w' => e = .returned .nilIface ∧
      ∃ v', w'.cell? ⟨w.heap.size + 1, 0, none⟩ = some v' ∧ w'.cell? ⟨w.heap.size + 1, 1, none⟩ = some (.int .i64 1) ∧ w'.ownsRow x2.heap.size 5 1 v' 24 (u8s (hdr false (magicOf nano) vmaj vmin zone sig snap link)) ∧ Chg x2 w' (fun k => k = w.heap.size + 1 ∨ k = b)) :=
    flush b g (w.heap.size + 1) 24 N (hdr false (magicOf nano) vmaj vmin zone sig snap link) (hdr_len _ _ _ _ _ _ _ _) (by omega) hN24 hN65 x2 hA.b0 hA.b1 hA.b2 hA.b3 hA.bf k0 k1 k2 kf0 kf1 (by omega) (by omega) hA.hp
  have o0 := hA.o0
  have o1 := hA.o1
  have o2 := hA.o2
  have HB2 : Hid (Below w.heap.size w x2) := hbel2
  have HB3 : Hid (w.heap.size ≤ b) := by show _ ≤ _; omega
  clear hA hB hsz hlb hlg hno k0 k2 kf0 kf1 hbel2
  go_wp2_with fail
  refine HFL.out.mono ?_
  rintro e x3 ⟨rfl, v, v0, v1, hown, hchg⟩
  have HB4 : Hid (Below w.heap.size w x3) := below_chg HB2.out hchg HB2.out.size (fun k hk => by have := HB3.out; omega)
  have HO : Hid (x3.ownsRow w.heap.size 5 1 v 24 (u8s (hdr false (magicOf nano) vmaj vmin zone sig snap link))) := ownsRow_base hown HB2.out.size
  have HV : Hid (x3.cell? ⟨w.heap.size + 1, 0, none⟩ = some v ∧ x3.cell? ⟨w.heap.size + 1, 1, none⟩ = some (.int .i64 1)) := ⟨v0, v1⟩
  clear hown hchg v0 v1 HFL HB3 HB2 o0 o1 o2 k1 hneq
  go_upto_if 81 with fail
  go_cut [22] (fun mv wc => ∃ mg : Int, mv = .int .u32 mg ∧ Hid (mg = magicOf nano) ∧ 0 ≤ mg ∧ mg < 4294967296 ∧ x3 = wc)
  case first =>
    cases nano
    · go_wp2_with fail
      go_meet
      case rel => exact ⟨_, rfl, (show _ = _ from rfl), (magic_bd false).1, (magic_bd false).2, rfl⟩
    · go_wp2_with fail
      go_meet
      case rel => exact ⟨_, rfl, (show _ = _ from rfl), (magic_bd true).1, (magic_bd true).2, rfl⟩
  case rest =>
    obtain ⟨mg, rfl, HMG, m0, m1, rfl⟩ := hcut
    have hmk := make24
    go_wp2_with fail
    have hA0 := aft_start HB4.out HV.out.1 HV.out.2 HO.out (.cells (zz 24) 5)
    have hw0 : (x3.alloc (.cells (zz 24) 5)).ownsRow w.heap.size 5 1 (.slice (some ⟨x3.heap.size, 0, none⟩) 0 24) 0 [] := World.ownsRow_made x3 (zz 24) 24 HB4.out.size (by simp [maxLen]) (by simp [zz, madeCells])
    have HA0 : Hid (Aft w (w.heap.size + 1) v (hdr false (magicOf nano) vmaj vmin zone sig snap link) x3.heap.size _) := hA0
    have HW0 : Hid (World.ownsRow _ w.heap.size 5 1 (.slice (some ⟨x3.heap.size, 0, none⟩) 0 24) 0 []) := hw0
    clear hA0 hw0
    refine (want32 false x3.heap.size 0 w.heap.size mg [] _ m0 m1 (by omega) HW0.out).mono ?_
    rintro e y1 ⟨rfl, hw1, hg1⟩
    have hA1 := HA0.out.grown hg1
    clear HA0 HW0 hg1
    go_wp2_with fail
    have HA1 : Hid (Aft w (w.heap.size + 1) v (hdr false (magicOf nano) vmaj vmin zone sig snap link) x3.heap.size _) := hA1
    have HW1 : Hid (World.ownsRow _ w.heap.size 5 1 (.slice (some ⟨x3.heap.size, 0, none⟩) 4 24) 4 ([] ++ u8s (B4 false mg))) := hw1
    clear hA1 hw1
    refine (want16 false x3.heap.size 4 w.heap.size vmaj ([] ++ u8s (B4 false mg)) _ a0 a1 (by omega) HW1.out).mono ?_
    rintro e y2 ⟨rfl, hw2, hg2⟩
    have hA2 := HA1.out.grown hg2
    clear HA1 HW1 hg2
    go_wp2_with fail
    have HA2 : Hid (Aft w (w.heap.size + 1) v (hdr false (magicOf nano) vmaj vmin zone sig snap link) x3.heap.size _) := hA2
    have HW2 : Hid (World.ownsRow _ w.heap.size 5 1 (.slice (some ⟨x3.heap.size, 0, none⟩) 6 24) 6 (([] ++ u8s (B4 false mg)) ++ u8s (B2 false vmaj))) := hw2
    clear hA2 hw2
    refine (want16 false x3.heap.size 6 w.heap.size vmin (([] ++ u8s (B4 false mg)) ++ u8s (B2 false vmaj)) _ b0 b1 (by omega) HW2.out).mono ?_
    rintro e y3 ⟨rfl, hw3, hg3⟩
    have hA3 := HA2.out.grown hg3
    clear HA2 HW2 hg3
    go_wp2_with fail
    have HA3 : Hid (Aft w (w.heap.size + 1) v (hdr false (magicOf nano) vmaj vmin zone sig snap link) x3.heap.size _) := hA3
    have HW3 : Hid (World.ownsRow _ w.heap.size 5 1 (.slice (some ⟨x3.heap.size, 0, none⟩) 8 24) 8 ((([] ++ u8s (B4 false mg)) ++ u8s (B2 false vmaj)) ++ u8s (B2 false vmin))) := hw3
    clear hA3 hw3
    refine (want32 false x3.heap.size 8 w.heap.size zone ((([] ++ u8s (B4 false mg)) ++ u8s (B2 false vmaj)) ++ u8s (B2 false vmin)) _ c0 c1 (by omega) HW3.out).mono ?_
    rintro e y4 ⟨rfl, hw4, hg4⟩
    have hA4 := HA3.out.grown hg4
    clear HA3 HW3 hg4
    go_wp2_with fail
    have HA4 : Hid (Aft w (w.heap.size + 1) v (hdr false (magicOf nano) vmaj vmin zone sig snap link) x3.heap.size _) := hA4
    have HW4 : Hid (World.ownsRow _ w.heap.size 5 1 (.slice (some ⟨x3.heap.size, 0, none⟩) 12 24) 12 (((([] ++ u8s (B4 false mg)) ++ u8s (B2 false vmaj)) ++ u8s (B2 false vmin)) ++ u8s (B4 false zone))) := hw4
    clear hA4 hw4
    refine (want32 false x3.heap.size 12 w.heap.size sig (((([] ++ u8s (B4 false mg)) ++ u8s (B2 false vmaj)) ++ u8s (B2 false vmin)) ++ u8s (B4 false zone)) _ d0 d1 (by omega) HW4.out).mono ?_
    rintro e y5 ⟨rfl, hw5, hg5⟩
    have hA5 := HA4.out.grown hg5
    clear HA4 HW4 hg5
    go_wp2_with fail
    have HA5 : Hid (Aft w (w.heap.size + 1) v (hdr false (magicOf nano) vmaj vmin zone sig snap link) x3.heap.size _) := hA5
    have HW5 : Hid (World.ownsRow _ w.heap.size 5 1 (.slice (some ⟨x3.heap.size, 0, none⟩) 16 24) 16 ((((([] ++ u8s (B4 false mg)) ++ u8s (B2 false vmaj)) ++ u8s (B2 false vmin)) ++ u8s (B4 false zone)) ++ u8s (B4 false sig))) := hw5
    clear hA5 hw5
    refine (want32 false x3.heap.size 16 w.heap.size snap ((((([] ++ u8s (B4 false mg)) ++ u8s (B2 false vmaj)) ++ u8s (B2 false vmin)) ++ u8s (B4 false zone)) ++ u8s (B4 false sig)) _ e0 e1 (by omega) HW5.out).mono ?_
    rintro e y6 ⟨rfl, hw6, hg6⟩
    have hA6 := HA5.out.grown hg6
    clear HA5 HW5 hg6
    go_wp2_with fail
    have HA6 : Hid (Aft w (w.heap.size + 1) v (hdr false (magicOf nano) vmaj vmin zone sig snap link) x3.heap.size _) := hA6
    have HW6 : Hid (World.ownsRow _ w.heap.size 5 1 (.slice (some ⟨x3.heap.size, 0, none⟩) 20 24) 20 (((((([] ++ u8s (B4 false mg)) ++ u8s (B2 false vmaj)) ++ u8s (B2 false vmin)) ++ u8s (B4 false zone)) ++ u8s (B4 false sig)) ++ u8s (B4 false snap))) := hw6
    clear hA6 hw6
    refine (want32 false x3.heap.size 20 w.heap.size link (((((([] ++ u8s (B4 false mg)) ++ u8s (B2 false vmaj)) ++ u8s (B2 false vmin)) ++ u8s (B4 false zone)) ++ u8s (B4 false sig)) ++ u8s (B4 false snap)) _ g0 g1 (by omega) HW6.out).mono ?_
    rintro e y7 ⟨rfl, hw7, hg7⟩
    have hA7 := HA6.out.grown hg7
    clear HA6 HW6 hg7
    rw [u8s_hdr, HMG.out] at hw7
    have l0 := hA7.c0
    have l1 := hA7.c1
    have HEQ : Hid (Calls Ybaf.prog 10 #[v, .slice (some ⟨x3.heap.size, 0, none⟩) 24 24] y7 fun e w' => e = .returned (.bool true) ∧ w' = y7) := equal_same _ _ _ y7 (conv_own (hdr_len _ _ _ _ _ _ _ _) hA7.own) (conv_own (hdr_len _ _ _ _ _ _ _ _) hw7)
    have HBL : Hid (Below w.heap.size w y7) := hA7.bel
    clear hA7 hw7
    go_wp2_with fail
    refine HEQ.out.mono ?_
    rintro e w' ⟨rfl, hw'⟩
    rw [hw']
    go_wp2_with fail
    go_ret
    exact ⟨rfl, HBL.out⟩
end Go.Proofs.YbulkdanoFmt.Hdr
