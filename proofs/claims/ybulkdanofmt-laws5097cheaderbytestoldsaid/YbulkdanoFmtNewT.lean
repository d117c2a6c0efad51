import Derived.Test.YbulkdanoFmtNewA
namespace Go.Proofs.YbulkdanoFmt.Hdr
open Go.RowKit

theorem nil32_true (w : World) : (nilAhead 247 52 (.agg #[]) "PutUint32").run Ybaf.prog w = .ok (some false) w := by kernel_rfl
theorem nil16_true (w : World) : (nilAhead 247 52 (.agg #[]) "PutUint16").run Ybaf.prog w = .ok (some false) w := by kernel_rfl
theorem meth32_true (w : World) : (method 247 52 (.agg #[]) "PutUint32").run Ybaf.prog w = .ok (51, .agg #[]) w := by kernel_rfl
theorem meth16_true (w : World) : (method 247 52 (.agg #[]) "PutUint16").run Ybaf.prog w = .ok (50, .agg #[]) w := by kernel_rfl

set_option maxRecDepth 100000 in
set_option maxHeartbeats 1600000 in
theorem newWriter_true (s : Nat) (nano : Bool) (vmaj vmin zone sig snap link : Int) (w : World)
    (a0 : 0 ≤ vmaj) (a1 : vmaj < 65536) (b0 : 0 ≤ vmin) (b1 : vmin < 65536) (c0 : 0 ≤ zone) (c1 : zone < 4294967296) (d0 : 0 ≤ sig) (d1 : sig < 4294967296) (e0 : 0 ≤ snap) (e1 : snap < 4294967296) (g0 : 0 ≤ link) (g1 : link < 4294967296) :
    Calls Ybaf.prog 6 #[.iface 29 (.pointer (some ⟨s, 0, none⟩)), .agg #[.iface 52 (.agg #[]), .bool nano, .int .u16 vmaj, .int .u16 vmin, .int .u32 zone, .int .u32 sig, .int .u32 snap, .int .u32 link]] w fun e w' =>
      ∃ N b g O, 24 ≤ N ∧ N ≤ 65536 ∧ e = .returned (.tuple #[.pointer (some ⟨O, 0, none⟩), .nilIface]) ∧ NewAt w 52 s (hdr true (magicOf nano) vmaj vmin zone sig snap link) N b g O w' := by
  have n32 := nil32_true
  have n16 := nil16_true
  have m32 := meth32_true
  have m16 := meth16_true
  go_enter Ybaf.func6, Ybaf.ntmps6
  go_upto_if 15 with fail
  go_cut [8] (fun v wc => ∃ mg : Int, v = .int .u32 mg ∧ Hid (mg = magicOf nano) ∧ 0 ≤ mg ∧ mg < 4294967296 ∧ NwAt w vmaj vmin zone sig snap link (hz0 true mg vmaj vmin zone sig snap link) wc)
  case first =>
    have hst : ∀ mg, NwAt w vmaj vmin zone sig snap link (hz0 true mg vmaj vmin zone sig snap link) ((w.alloc (.cells #[.iface 52 (.agg #[]), .bool nano, .int .u16 vmaj, .int .u16 vmin, .int .u32 zone, .int .u32 sig, .int .u32 snap, .int .u32 link] 28)).alloc (.cells #[.int .u8 0, .int .u8 0, .int .u8 0, .int .u8 0, .int .u8 0, .int .u8 0, .int .u8 0, .int .u8 0, .int .u8 0, .int .u8 0, .int .u8 0, .int .u8 0, .int .u8 0, .int .u8 0, .int .u8 0, .int .u8 0, .int .u8 0, .int .u8 0, .int .u8 0, .int .u8 0, .int .u8 0, .int .u8 0, .int .u8 0, .int .u8 0] 56)) := fun mg => nwAt_start w 52 nano vmaj vmin zone sig snap link
    have HST := hst
    clear hst
    cases nano
    · go_wp2_with fail
      go_meet
      case rel => exact ⟨_, rfl, (show _ = _ from rfl), (magic_bd false).1, (magic_bd false).2, HST _⟩
    · go_wp2_with fail
      go_meet
      case rel => exact ⟨_, rfl, (show _ = _ from rfl), (magic_bd true).1, (magic_bd true).2, HST _⟩
  case rest =>
    obtain ⟨mg, rfl, HMG, m0, m1, hN0⟩ := hcut
    rename World => x0
    have HP0 : Hid (Calls Ybaf.prog 51 #[.agg #[], .slice (some ⟨w.heap.size + 1, 0, none⟩) 24 24, .int .u32 mg] x0.drew fun e w' => e = .returned (.tuple #[]) ∧ Row w' (w.heap.size + 1) 56 (hz1 true mg vmaj vmin zone sig snap link) ∧ x0.drew.grownBy w' (some (w.heap.size + 1))) :=
      put32b (w.heap.size + 1) 0 24 24 56 mg (hz0 true mg vmaj vmin zone sig snap link) x0.drew m0 m1 (by omega) hN0.row (by rw [hz0_len]; omega)
    have HN0 : Hid (NwAt w vmaj vmin zone sig snap link (hz0 true mg vmaj vmin zone sig snap link) x0) := hN0
    clear hN0
    go_upto_region 6 with fail
    go_cut [] (fun wc => NwAt w vmaj vmin zone sig snap link (hz1 true mg vmaj vmin zone sig snap link) wc)
    case first =>
      go_region_with (go_at_call 51; refine HP0.out.mono ?_; rintro e w' ⟨rfl, hv⟩; have hv2 := HN0.out.put hv.1 hv.2; clear hv)
      all_goals
        go_wp2_with fail
        go_meet
        case rel => assumption
    case rest =>
      rename World => x1
      have hN1 := hcut
      clear hcut HP0 HN0
      have HP1 : Hid (Calls Ybaf.prog 50 #[.agg #[], .slice (some ⟨w.heap.size + 1, 4, none⟩) 20 20, .int .u16 vmaj] x1.drew fun e w' => e = .returned (.tuple #[]) ∧ Row w' (w.heap.size + 1) 56 (hz2 true mg vmaj vmin zone sig snap link) ∧ x1.drew.grownBy w' (some (w.heap.size + 1))) :=
        put16b (w.heap.size + 1) 4 20 20 56 vmaj (hz1 true mg vmaj vmin zone sig snap link) x1.drew a0 a1 (by omega) hN1.row (by rw [hz1_len]; omega)
      have hf1 := hN1.f2
      have HN1 : Hid (NwAt w vmaj vmin zone sig snap link (hz1 true mg vmaj vmin zone sig snap link) x1) := hN1
      clear hN1
      go_upto_region 7 with fail
      go_cut [] (fun wc => NwAt w vmaj vmin zone sig snap link (hz2 true mg vmaj vmin zone sig snap link) wc)
      case first =>
        go_region_with (go_at_call 50; refine HP1.out.mono ?_; rintro e w' ⟨rfl, hv⟩; have hv2 := HN1.out.put hv.1 hv.2; clear hv)
        all_goals
          go_wp2_with fail
          go_meet
          case rel => assumption
      case rest =>
        rename World => x2
        have hN2 := hcut
        clear hcut HP1 HN1 hf1
        have HP2 : Hid (Calls Ybaf.prog 50 #[.agg #[], .slice (some ⟨w.heap.size + 1, 6, none⟩) 18 18, .int .u16 vmin] x2.drew fun e w' => e = .returned (.tuple #[]) ∧ Row w' (w.heap.size + 1) 56 (hz3 true mg vmaj vmin zone sig snap link) ∧ x2.drew.grownBy w' (some (w.heap.size + 1))) :=
          put16b (w.heap.size + 1) 6 18 18 56 vmin (hz2 true mg vmaj vmin zone sig snap link) x2.drew b0 b1 (by omega) hN2.row (by rw [hz2_len]; omega)
        have hf2 := hN2.f3
        have HN2 : Hid (NwAt w vmaj vmin zone sig snap link (hz2 true mg vmaj vmin zone sig snap link) x2) := hN2
        clear hN2
        go_upto_region 8 with fail
        go_cut [] (fun wc => NwAt w vmaj vmin zone sig snap link (hz3 true mg vmaj vmin zone sig snap link) wc)
        case first =>
          go_region_with (go_at_call 50; refine HP2.out.mono ?_; rintro e w' ⟨rfl, hv⟩; have hv2 := HN2.out.put hv.1 hv.2; clear hv)
          all_goals
            go_wp2_with fail
            go_meet
            case rel => assumption
        case rest =>
          rename World => x3
          have hN3 := hcut
          clear hcut HP2 HN2 hf2
          have HP3 : Hid (Calls Ybaf.prog 51 #[.agg #[], .slice (some ⟨w.heap.size + 1, 8, none⟩) 16 16, .int .u32 zone] x3.drew fun e w' => e = .returned (.tuple #[]) ∧ Row w' (w.heap.size + 1) 56 (hz4 true mg vmaj vmin zone sig snap link) ∧ x3.drew.grownBy w' (some (w.heap.size + 1))) :=
            put32b (w.heap.size + 1) 8 16 16 56 zone (hz3 true mg vmaj vmin zone sig snap link) x3.drew c0 c1 (by omega) hN3.row (by rw [hz3_len]; omega)
          have hf3 := hN3.f4
          have HN3 : Hid (NwAt w vmaj vmin zone sig snap link (hz3 true mg vmaj vmin zone sig snap link) x3) := hN3
          clear hN3
          go_upto_region 9 with fail
          go_cut [] (fun wc => NwAt w vmaj vmin zone sig snap link (hz4 true mg vmaj vmin zone sig snap link) wc)
          case first =>
            go_region_with (go_at_call 51; refine HP3.out.mono ?_; rintro e w' ⟨rfl, hv⟩; have hv2 := HN3.out.put hv.1 hv.2; clear hv)
            all_goals
              go_wp2_with fail
              go_meet
              case rel => assumption
          case rest =>
            rename World => x4
            have hN4 := hcut
            clear hcut HP3 HN3 hf3
            have HP4 : Hid (Calls Ybaf.prog 51 #[.agg #[], .slice (some ⟨w.heap.size + 1, 12, none⟩) 12 12, .int .u32 sig] x4.drew fun e w' => e = .returned (.tuple #[]) ∧ Row w' (w.heap.size + 1) 56 (hz5 true mg vmaj vmin zone sig snap link) ∧ x4.drew.grownBy w' (some (w.heap.size + 1))) :=
              put32b (w.heap.size + 1) 12 12 12 56 sig (hz4 true mg vmaj vmin zone sig snap link) x4.drew d0 d1 (by omega) hN4.row (by rw [hz4_len]; omega)
            have hf4 := hN4.f5
            have HN4 : Hid (NwAt w vmaj vmin zone sig snap link (hz4 true mg vmaj vmin zone sig snap link) x4) := hN4
            clear hN4
            go_upto_region 10 with fail
            go_cut [] (fun wc => NwAt w vmaj vmin zone sig snap link (hz5 true mg vmaj vmin zone sig snap link) wc)
            case first =>
              go_region_with (go_at_call 51; refine HP4.out.mono ?_; rintro e w' ⟨rfl, hv⟩; have hv2 := HN4.out.put hv.1 hv.2; clear hv)
              all_goals
                go_wp2_with fail
                go_meet
                case rel => assumption
            case rest =>
              rename World => x5
              have hN5 := hcut
              clear hcut HP4 HN4 hf4
              have HP5 : Hid (Calls Ybaf.prog 51 #[.agg #[], .slice (some ⟨w.heap.size + 1, 16, none⟩) 8 8, .int .u32 snap] x5.drew fun e w' => e = .returned (.tuple #[]) ∧ Row w' (w.heap.size + 1) 56 (hz6 true mg vmaj vmin zone sig snap link) ∧ x5.drew.grownBy w' (some (w.heap.size + 1))) :=
                put32b (w.heap.size + 1) 16 8 8 56 snap (hz5 true mg vmaj vmin zone sig snap link) x5.drew e0 e1 (by omega) hN5.row (by rw [hz5_len]; omega)
              have hf5 := hN5.f6
              have HN5 : Hid (NwAt w vmaj vmin zone sig snap link (hz5 true mg vmaj vmin zone sig snap link) x5) := hN5
              clear hN5
              go_upto_region 11 with fail
              go_cut [] (fun wc => NwAt w vmaj vmin zone sig snap link (hz6 true mg vmaj vmin zone sig snap link) wc)
              case first =>
                go_region_with (go_at_call 51; refine HP5.out.mono ?_; rintro e w' ⟨rfl, hv⟩; have hv2 := HN5.out.put hv.1 hv.2; clear hv)
                all_goals
                  go_wp2_with fail
                  go_meet
                  case rel => assumption
              case rest =>
                rename World => x6
                have hN6 := hcut
                clear hcut HP5 HN5 hf5
                have HP6 : Hid (Calls Ybaf.prog 51 #[.agg #[], .slice (some ⟨w.heap.size + 1, 20, none⟩) 4 4, .int .u32 link] x6.drew fun e w' => e = .returned (.tuple #[]) ∧ Row w' (w.heap.size + 1) 56 (hz7 true mg vmaj vmin zone sig snap link) ∧ x6.drew.grownBy w' (some (w.heap.size + 1))) :=
                  put32b (w.heap.size + 1) 20 4 4 56 link (hz6 true mg vmaj vmin zone sig snap link) x6.drew g0 g1 (by omega) hN6.row (by rw [hz6_len]; omega)
                have hf6 := hN6.f7
                have HN6 : Hid (NwAt w vmaj vmin zone sig snap link (hz6 true mg vmaj vmin zone sig snap link) x6) := hN6
                clear hN6
                go_upto_region 12 with fail
                go_cut [] (fun wc => NwAt w vmaj vmin zone sig snap link (hz7 true mg vmaj vmin zone sig snap link) wc)
                case first =>
                  go_region_with (go_at_call 51; refine HP6.out.mono ?_; rintro e w' ⟨rfl, hv⟩; have hv2 := HN6.out.put hv.1 hv.2; clear hv)
                  all_goals
                    go_wp2_with fail
                    go_meet
                    case rel => assumption
                case rest =>
                  rename World => x7
                  have hN7 := hcut
                  clear hcut HP6 HN6 hf6
                  rw [hz_hdr] at hN7
                  have hlen := hdr_len true mg vmaj vmin zone sig snap link
                  obtain ⟨zs, hzs⟩ : ∃ zs, zs = hdr true mg vmaj vmin zone sig snap link := ⟨_, rfl⟩
                  rw [← hzs] at hN7 hlen
                  have HZ : Hid (zs = hdr true mg vmaj vmin zone sig snap link) := hzs
                  clear hzs
                  obtain ⟨N, hNI, hN24, hN65⟩ : ∃ N : Nat, (65536 : Int) = (N : Int) ∧ 24 ≤ N ∧ N ≤ 65536 := ⟨65536, rfl, by omega, by omega⟩
                  have HNI : Hid ((65536 : Int) = (N : Int)) := hNI
                  clear hNI n32 n16 m32 m16
                  have HN7 : Hid (NwAt w vmaj vmin zone sig snap link zs x7) := hN7
                  have HNS : Hid (Calls Ybaf.prog 13 #[.iface 29 (.pointer (some ⟨s, 0, none⟩)), .int .i64 (N : Int)] x7 fun e w' => e = .returned (.pointer (some ⟨x7.heap.size + 1, 0, none⟩)) ∧
                    w' = (x7.alloc (.cells (zz N) 5)).alloc (.cells #[.nilIface, .slice (some ⟨x7.heap.size, 0, none⟩) N N, .int .i64 0, .iface 29 (.pointer (some ⟨s, 0, none⟩))] 63)) := newSize _ N (by omega) hN65 x7
                  have HBW : Hid (Calls Ybaf.prog 14 #[.pointer (some ⟨x7.heap.size + 1, 0, none⟩), .slice (some ⟨w.heap.size + 1, 0, none⟩) 24 24] ((x7.alloc (.cells (zz N) 5)).alloc (.cells #[.nilIface, .slice (some ⟨x7.heap.size, 0, none⟩) N N, .int .i64 0, .iface 29 (.pointer (some ⟨s, 0, none⟩))] 63)) fun e w' => e = .returned (.tuple #[.int .i64 24, .nilIface]) ∧
                    ∃ q, w' = ((((x7.alloc (.cells (zz N) 5)).alloc (.cells #[.nilIface, .slice (some ⟨x7.heap.size, 0, none⟩) N N, .int .i64 0, .iface 29 (.pointer (some ⟨s, 0, none⟩))] 63)).drewN q).setRow x7.heap.size (splice (u8s (List.replicate N 0)) 0 (u8s zs)).toArray).setCell ⟨x7.heap.size + 1, 2, none⟩ (.int .i64 24)) := bwrite_new x7 s N (w.heap.size + 1) 56 zs (by omega) hN65 hN24 hlen hN7.row
                  clear hN7
                  go_wp2_with fail
                  rw [HNI.out]
                  refine HNS.out.mono ?_
                  rintro e w' ⟨rfl, hw'⟩
                  rw [hw']
                  clear hw'
                  go_wp2_with fail
                  refine HBW.out.mono ?_
                  rintro e w' ⟨rfl, q, hw'⟩
                  have HW : Hid (w' = _) := hw'
                  have hsz : w'.heap.size = x7.heap.size + 2 := by rw [hw']; simp
                  clear hw'
                  go_wp2_with fail
                  go_ret2
                  refine ⟨N, x7.heap.size + 1, x7.heap.size, x7.heap.size + 2, hN24, hN65, rfl, ?_⟩
                  rw [HW.out, ← HMG.out, ← HZ.out]
                  exact newAt_of 52 s N q hN24 hlen HN7.out _ rfl rfl rfl
end Go.Proofs.YbulkdanoFmt.Hdr
