import Derived.Test.YbulkdanoShareC
import Derived.Deep.LoopGhost
import Derived.Deep.DeepCutAuto
import Derived.Deep.CutBlock
import Derived.Deep.QuietTactic
import Derived.BigQuiet
import Derived.Laws.AppendOwnNone
import Derived.Lib.Builder
namespace Go.Proofs.Ybulkdano.Share
open Go.RowKit Go.Maps Go.WideMaps

def mkc (len : Nat) : Array Value := madeCells #[.pointer none] len
theorem mkc_size (len : Nat) : (mkc len).size = len := by simp [mkc, madeCells]
theorem info27 : (Yba.prog.info? 27).map (fun i => (i.zero, i.size, i.bytes)) = some (some (.pointer none), 1, 8) := by kernel_rfl
theorem info5 : (Yba.prog.info? 5).map (fun i => (i.zero, i.size, i.bytes)) = some (some (.int .u8 0), 1, 1) := by kernel_rfl

theorem info33 : (Yba.prog.info? 33).map (fun i => (i.zero, i.size, i.bytes)) = some (some (.agg #[.int .u64 0]), 1, 8) := by kernel_rfl
theorem neq_same (p : Addr) (w : World) : (binOp .neq 27 (.pointer (some p)) (.pointer (some p))).run Yba.prog w = .ok (.bool false) w := by
  obtain ⟨i0, hi, _⟩ := info_parts info33
  exact Lib.run_neq_ptr_same w p Yba.underlying27 hi
theorem eql_same (p : Addr) (w : World) : (binOp .eql 27 (.pointer (some p)) (.pointer (some p))).run Yba.prog w = .ok (.bool true) w := by
  obtain ⟨i0, hi, _⟩ := info_parts info33
  exact run_eql_ptr_same w p Yba.underlying27 hi

theorem make_ptrs (len : Nat) (hl : len ≤ 1024) (w : World) : (Instr.makeSlice 26 (.int .i64 (len : Int)) (.int .i64 (len : Int))).run Yba.prog w = .ok (.slice (some ⟨w.heap.size, 0, none⟩) len len) (w.alloc (.cells (mkc len) 27)) := by
  obtain ⟨i0, hi, hz0, hz1, hz2⟩ := info_parts info27
  have := run_make (P := Yba.prog) w 26 27 i0 (.pointer none) Yba.underlying26 hi hz0 .i64 .i64 (len : Int) (len : Int) (by omega) (by omega) (by rw [hz2]; omega) (by omega)
  rw [hz1] at this
  simpa [mkc, Value.cells] using this

/-- What is told of a []byte that came in. -/
def RawIs (ra : Option Addr) (rlen rcap : Nat) (xs : List UInt8) (w : World) : Prop :=
  (ra = none ∧ rlen = 0 ∧ rcap = 0 ∧ xs = []) ∨
  ∃ x : Addr, ra = some x ∧ (0 < xs.length → x.block < w.heap.size) ∧ xs.length = rlen ∧ ∀ j (hj : j < xs.length), w.cell? (x.add j) = some (.int .u8 (xs[j].toNat : Int))

set_option maxRecDepth 100000 in
set_option maxHeartbeats 1600000 in
theorem walk (a : Option Addr) (b off len cap : Nat) (ss : List ByteArray) (ra : Option Addr) (rlen rcap : Nat) (xs : List UInt8) (a2 : Bool) (a3 : Int) (a4 : Bool) (w : World)
    (hl : len ≤ 1024) (hz : len ≤ ss.length) (ha : 0 < len → a = some ⟨b, off, none⟩) (hb : 0 < len → b < w.heap.size)
    (hc : ∀ j, j < len → w.cell? ⟨b, off + j, none⟩ = some (.string (ss.getD j ByteArray.empty))) (hsz : ∀ s ∈ ss, s.size ≤ maxLen)
    (hrl : rlen ≤ 1024) (hraw : RawIs ra rlen rcap xs w) (h30 : 0 ≤ a3) (h31 : a3 ≤ 255) :
    Calls Yba.prog 3 #[.slice a len cap, .slice ra rlen rcap, .bool a2, .int .u8 a3, .bool a4] w fun e w' => e = .returned (.bool true) ∧ Below w.heap.size w w' := by
  have HA : Hid (0 < len → a = some ⟨b, off, none⟩) := ha
  have HB : Hid (0 < len → b < w.heap.size) := hb
  have HC : Hid (∀ j, j < len → w.cell? ⟨b, off + j, none⟩ = some (.string (ss.getD j ByteArray.empty))) := hc
  have HS : Hid (∀ s ∈ ss, s.size ≤ maxLen) := hsz
  have HR : Hid (RawIs ra rlen rcap xs w) := hraw
  clear ha hb hc hsz hraw
  have hmm := @run_makeMap Yba.prog
  have hmk := make_ptrs len hl
  go_enter Yba.func3, Yba.ntmps3
  go_wp2
  go_loopg [41] len (fun k i wr => ∃ n : Nat, n + k = len ∧ i = .int .i64 n ∧ ∃ (E : Nat) (qs : Nat → Nat) (D : DataW Value), Tab w len n n E qs D wr ∧ Dat ss qs n D)
  case atStart => exact ⟨0, by omega, rfl, _, fun _ => 0, _, tab_start w len _ _ (mkc_size len), dat_start ss _⟩
  case round =>
    clear hmm hmk
    obtain ⟨n, hn, rfl, E, qs, D, hT, hD⟩ := hrel
    by_cases hlt : n < len
    · skip
      have hae : a = some ⟨b, off, none⟩ := HA.out (by omega)
      subst hae
      obtain ⟨s, hs⟩ : ∃ s, s = ss.getD n ByteArray.empty := ⟨_, rfl⟩
      have hcx : wr.cell? ⟨b, off + n, none⟩ = some (.string s) := by rw [hs]; exact (hT.bel.cell (HB.out (by omega))).trans (HC.out n hlt)
      have hsl : s.size ≤ maxLen := by
        rw [hs, List.getD, List.getElem?_eq_getElem (show n < ss.length by omega)]
        exact HS.out _ (List.getElem_mem _)
      have HSn : Hid (s = ss.getD n ByteArray.empty) := hs
      clear hs
      obtain ⟨⟨v0, hv0⟩, hf0⟩ := hT.slz n hlt
      have hsz1 : w.heap.size + 1 < wr.heap.size := by have := hT.hE; omega
      have HT : Hid (Tab w len n n E qs D wr) := hT
      have HD : Hid (Dat ss qs n D) := hD
      clear hT hD
      go_wp2_with fail
      refine (store_any ⟨wr.heap.size, 0, none⟩ (.int .u64 0) _ _ (by simp) (by simp)).mono ?_
      rintro e w' ⟨rfl, rfl⟩
      go_wp2_with (at_mapUpdate; refine wpList_mapUpdate_own _ rfl _ _ _ 25 rfl 9 27 law Yba.underlying25 pe w.heap.size n D rfl ((HT.out.own.setCell (a := ⟨w.heap.size + 1, n, none⟩) (by simp) _).alloc _) (by unfold maxLen; omega) _ _ _ rfl rfl (key_of s hsl) _ [] rfl ?_)
      intro w1 hown1 hgrow1
      have hT1 := tab_step HT.out hlt hgrow1 hown1
      have hD1 := dat_step HD.out HT.out.own.isMap wr.heap.size
      rw [← HSn.out] at hD1
      clear hown1 hgrow1
      go_wp2
      go_roundg (gk - 1)
      case measure => omega
      case rel => exact ⟨n + 1, by omega, by go_num, _, _, _, hT1, hD1⟩
    · have hnl : n = len := by omega
      subst hnl
      have HT : Hid (Tab w n n n E qs D wr) := hT
      have HD : Hid (Dat ss qs n D) := hD
      clear hT hD
      go_upto_region 14 with fail
      go_cut [65] (fun v wc => (∃ ex : Bool, v = .bool ex ∧ (ex = true → 0 < n)) ∧ wr = wc)
      case first =>
        cases a2
        · go_wp2_with fail
          go_meet
          case rel => exact ⟨⟨false, rfl, by simp⟩, rfl⟩
        · go_wp2_with fail
          go_meet
          case rel => exact ⟨⟨_, rfl, by simp⟩, rfl⟩
      case rest =>
        obtain ⟨⟨ex, rfl, hex⟩, rfl⟩ := hcut
        have HX : Hid (ex = true → 0 < n) := hex
        clear hex
        go_upto_if 65 with fail
        go_cut [16] (fun kv wc => ∃ ks : ByteArray, KeyIs E kv ks wc ∧ ks.size ≤ maxLen ∧ wr.grownBy wc none)
        case first =>
          cases ex
          rotate_left
          · have hpos : 0 < n := HX.out rfl
            have hae : a = some ⟨b, off, none⟩ := HA.out hpos
            subst hae
            have hm0 : 0 ≤ a3 % (n : Int) := Int.emod_nonneg _ (by omega)
            have hm1 : a3 % (n : Int) < n := Int.emod_lt_of_pos _ (by omega)
            obtain ⟨s, hs⟩ : ∃ s, s = ss.getD (a3 % (n : Int)).toNat ByteArray.empty := ⟨_, rfl⟩
            have hcx : wr.cell? ⟨b, off + (a3 % (n : Int)).toNat, none⟩ = some (.string s) := by rw [hs]; exact (HT.out.bel.cell (HB.out (by omega))).trans (HC.out _ (by omega))
            have hsl : s.size ≤ maxLen := by
              rw [hs, List.getD, List.getElem?_eq_getElem (show (a3 % (n : Int)).toNat < ss.length by omega)]
              exact HS.out _ (List.getElem_mem _)
            clear hs
            have hcb := run_bytes_of_string (P := Yba.prog) wr 9 23 5 s Yba.underlying9 Yba.underlying23 Yba.underlying5
            generalize grownCap wr s.size 0 5 = gc at hcb
            go_wp2_with fail
            go_meet
            case rel => exact ⟨s, keyIs_bytes (by have := HT.out.hE; omega) _, hsl, ⟨rfl, rfl, rfl, by simp, fun k hk _ => heap_alloc_old wr _ hk⟩⟩
          · rcases HR.out with ⟨rfl, rfl, rfl, rfl⟩ | ⟨x, rfl, hxb, hxl, hxc⟩
            · go_wp2_with fail
              go_meet
              case rel => exact ⟨ByteArray.empty, .inl ⟨rfl, rfl⟩, by simp, World.grownBy.refl _ _⟩
            · obtain ⟨i0, hi, hz0, hz1, hz2⟩ := info_parts info5
              have hxc' : ∀ j u, (u8s xs)[j]? = some u → wr.cell? (x.add j) = some u := by
                intro j u hu
                have hj : j < xs.length := by
                  have := (List.getElem?_eq_some_iff.1 hu).1
                  simpa [u8s] using this
                simp [u8s, List.getElem?_eq_getElem hj] at hu
                subst hu
                rw [HT.out.bel.cell (by unfold Addr.add; split <;> exact hxb (by omega))]
                exact hxc j hj
              go_wp2_with (at_builtin; refine wpList_append_own _ rfl _ _ 23 rfl E 5 i0 (.int .u8 0) 1 1 Yba.underlying23 hi hz0 hz1 hz2 rfl (by decide) _ _ _ rfl (World.ownsRow_nil _ E 5 1) x rlen rcap (u8s xs) rfl (by simp [u8s, hxl]) hxc' (ints_oneCell .u8 _) (by unfold maxLen; omega) (by omega) (by have := HT.out.hE; omega) ?_)
              intro v' w1 hown1 hgrow1 _
              have hk1 : KeyIs E v' ⟨xs.toArray⟩ w1 := keyIs_own (by rw [hxl]; simpa using hown1)
              clear hown1
              go_wp2_with fail
              go_meet
              case rel => exact ⟨_, hk1, by simp [ByteArray.size, maxLen, hxl]; omega, hgrow1⟩
        case rest =>
          obtain ⟨ks, hkey, hks, hgrow⟩ := hcut
          rename World => w2
          have hT := HT.out.grown hgrow (fun k hk => by cases hk)
          have HT' : Hid (Tab w n n n E qs D w2) := hT
          have hcv : (convert 23 9 u16).run Yba.prog w2 = .ok (.string ks) w2 := keyIs_conv hkey
          have HK : Hid (KeyIs E u16 ks w2) := hkey
          clear HT hT hkey hgrow
          go_upto_if 79 with fail
          go_cut [18] (fun ov wd => ∃ oo, ov = .pointer oo ∧ OwnIs a4 oo w2 wd)
          case first =>
            cases a4
            · go_wp2_with fail
              go_meet
              case rel => exact ⟨none, rfl, .inl ⟨rfl, rfl, rfl⟩⟩
            · go_wp2_with fail
              refine (store_any ⟨w2.heap.size, 0, none⟩ (.int .u64 0) _ _ (by simp) (by simp)).mono ?_
              rintro e w' ⟨rfl, rfl⟩
              go_wp2_with fail
              go_meet
              case rel => exact ⟨_, rfl, .inr ⟨rfl, rfl, by simp [go_sem]⟩⟩
          case rest =>
            obtain ⟨oo, rfl, hoo⟩ := hcut
            rename World => w3
            have hg3 : w2.grownBy w3 none := by
              rcases hoo with ⟨_, _, rfl⟩ | ⟨_, _, rfl⟩
              · exact World.grownBy.refl _ _
              · exact World.grownBy_alloc _ _ _
            have hT3 := HT'.out.grown hg3 (fun k hk => by cases hk)
            have hK3 := HK.out.grown hg3 (fun k hk => by cases hk)
            have HT3 : Hid (Tab w n n n E qs D w3) := hT3
            have HK3 : Hid (KeyIs E u16 ks w3) := hK3
            have HO : Hid (OwnIs a4 oo w2 w3) := hoo
            have hlen3 := fun ty => hT3.own.len Yba.underlying25 ty
            have hsD : Maps.size D ≤ 1024 := Nat.le_trans hT3.own.size_le hl
            clear HT' HK hg3 hT3 hK3 hoo hcv
            go_upto_region 24 with fail
            go_cut [] (fun we => ∃ N2 D2, Mid w ss n N2 E qs D2 u16 ks we ∧ Fin ss n qs ks a4 (.pointer oo) w3.heap.size (Maps.size D) D2 we)
            case first =>
              go_wp2_with fail
              refine (share_all _ _ _ _ _ _ _ _ _ HT3.out HD.out HK3.out hks hl HO.out).mono ?_
              rintro e we ⟨rfl, hM⟩
              go_wp2_with fail
              go_meet
              case rel => exact hM
            case rest =>
              obtain ⟨N2, D2, hM, hF⟩ := hcut
              rename World => w4
              have hcv4 : (convert 23 9 u16).run Yba.prog w4 = .ok (.string ks) w4 := keyIs_conv hM.key
              have hB4 : 0 < n → b < w.heap.size := HB.out
              have hc4 : ∀ q j, j < n → (w4.drewN q).cell? ⟨b, off + j, none⟩ = some (.string (ss.getD j ByteArray.empty)) := fun q j hj => (hM.tab.bel.cell (hB4 (by omega))).trans (HC.out j hj)
              have HC4 : Hid (∀ q j, j < n → (w4.drewN q).cell? ⟨b, off + j, none⟩ = some (.string (ss.getD j ByteArray.empty))) := hc4
              have HM : Hid (Mid w ss n N2 E qs D2 u16 ks w4) := hM
              have HF : Hid (Fin ss n qs ks a4 (.pointer oo) w3.heap.size (Maps.size D) D2 w4) := hF
              clear HT3 HK3 HO hlen3 hM hF hB4 hc4 HX
              go_wp2_with fail
              refine (last_any a b off n cap ss ks _ hl hz HA.out (HC4.out 0)).mono ?_
              rintro e w' ⟨rfl, hw'⟩
              rw [hw']
              go_wp2_with fail
              go_loopg [101] n (fun k i wr => ∃ m q : Nat, m + k = n ∧ i = .int .i64 m ∧ wr = w4.drewN q)
              case atStart => exact ⟨0, 0, by omega, rfl, rfl⟩
              case round =>
                obtain ⟨m, q, hm, rfl, hwq⟩ := hrel
                have HW : Hid (wr = w4.drewN q) := hwq
                have hMr : Mid w ss n N2 E qs D2 u16 ks wr := by
                  rw [hwq]
                  exact ⟨⟨⟨HM.out.tab.bel.os, HM.out.tab.bel.tape, HM.out.tab.bel.output, HM.out.tab.bel.size, HM.out.tab.bel.block⟩, HM.out.tab.own, HM.out.tab.sl, HM.out.tab.slz, HM.out.tab.ct, HM.out.tab.lo, HM.out.tab.hE⟩, HM.out.at_, HM.out.key⟩
                by_cases hml : m < n
                · skip
                  have hae : a = some ⟨b, off, none⟩ := HA.out (by omega)
                  subst hae
                  have hcw : ∀ j, j < n → wr.cell? ⟨b, off + j, none⟩ = some (.string (ss.getD j ByteArray.empty)) := by rw [hwq]; exact HC4.out q
                  obtain ⟨s, hs⟩ : ∃ s, s = ss.getD m ByteArray.empty := ⟨_, rfl⟩
                  have hcx : wr.cell? ⟨b, off + m, none⟩ = some (.string s) := by rw [hs]; exact hcw m hml
                  have hsl : s.size ≤ maxLen := by
                    rw [hs, List.getD, List.getElem?_eq_getElem (show m < ss.length by omega)]
                    exact HS.out _ (List.getElem_mem _)
                  have hL0 : 0 ≤ lastTo ss s n := by rw [hs]; exact lastTo_mem ss m n hml
                  have hL1 := (lastTo_bd ss s n).2
                  have hat := hMr.at_ s hL0
                  have hmv : mv ss qs n s = .pointer (some ⟨qs (lastTo ss s n).toNat, 0, none⟩) := by unfold mv; rw [if_pos hL0]
                  rw [hmv] at hat
                  have hlk := fun q => look (w := wr.drewN q) hMr.tab.own hsl hat
                  have hcl := hMr.tab.sl (lastTo ss s n).toNat (by omega)
                  have hct := hMr.tab.ct (lastTo ss s n).toNat (by omega)
                  have hla := last_any (some ⟨b, off, none⟩) b off n cap ss s wr hl hz (fun _ => rfl) hcw
                  clear hs hat hmv hcw hwq hMr
                  obtain ⟨L, hLe⟩ : ∃ L : Nat, (L : Int) = lastTo ss s n := ⟨(lastTo ss s n).toNat, by omega⟩
                  rw [← hLe] at hL0 hL1 hlk hcl hct hla
                  clear hLe
                  simp only [Int.toNat_natCast] at hlk hcl hct
                  have HLA : Hid (Calls Yba.prog 8 #[.slice (some ⟨b, off, none⟩) n cap, .string s] wr fun e w' => e = .returned (.int .i64 (L : Int)) ∧ w' = wr) := hla
                  have HCT : Hid (wr.cell? ⟨qs L, 0, none⟩ = some (.int .u64 ((L : Int) + 1))) := hct
                  clear hla hct
                  go_wp2_with fail
                  refine HLA.out.mono ?_
                  rintro e w' ⟨rfl, hw'⟩
                  rw [hw']
                  clear hw'
                  go_wp2_with fail
                  have hnq := neq_same
                  go_quiet ((go_at_call 9; exact Calls.quiet_of_same (load_any _ _ _ HCT.out)))
                  clear hnq
                  go_wp2_with fail
                  go_roundg (gk - 1)
                  case measure => omega
                  case rel => exact ⟨m + 1, _, by omega, by go_num, by rw [HW.out, World.drewN_drewN]⟩
                · have hFr : Fin ss n qs ks a4 (.pointer oo) w3.heap.size (Maps.size D) D2 wr := by rw [hwq]; exact HF.out
                  have hlen := fun ty => hMr.tab.own.len Yba.underlying25 ty
                  have hbel : Hid (Below w.heap.size w wr) := hMr.tab.bel
                  have hJb := (lastTo_bd ss ks n)
                  clear hcv4 HC4 hwq HW HM HF HA HB HC HS HR
                  rcases hFr with ⟨rfl, hoo, hc9, hsz, hhas, hat⟩ | ⟨o, rfl, hoo, hc7, hh⟩
                  · skip
                    injection hoo with hoo
                    subst hoo
                    rw [hsz] at hlen
                    have hlo := look_ok hMr.tab.own hks hat
                    by_cases hj : lastTo ss ks n < 0
                    · rw [hhas, decide_eq_false (show ¬ 0 ≤ lastTo ss ks n by omega)] at hlo
                      clear hMr hsz hhas hat
                      go_wp2_with fail
                      go_ret
                      exact ⟨rfl, hbel.out⟩
                    · clear hlo hMr hsz hhas hat
                      go_wp2_with fail
                      go_ret
                      exact ⟨rfl, hbel.out⟩
                  · injection hoo with hoo
                    subst hoo
                    rcases hh with ⟨hj, hc9, hsz⟩ | ⟨hj, hc9, hat, hsz⟩
                    · skip
                      have hcl := hMr.tab.sl (lastTo ss ks n).toNat (by omega)
                      rw [hsz] at hlen
                      have hlenq : ∀ q ty, (Builtin.len_ #[25] ty #[.map (some w.heap.size)]).run Yba.prog (wr.drewN q) = .ok (.int .i64 (Maps.size D)) (wr.drewN q) := fun q ty => by
                        have := (show (wr.drewN q).ownsMap Yba.prog 9 pe w.heap.size N2 D2 from hMr.tab.own).len Yba.underlying25 ty
                        rw [hsz] at this
                        exact this
                      have HCT : Hid (wr.cell? ⟨o, 0, none⟩ = some (.int .u64 7777)) := hc7
                      clear hMr hsz hc7 hlen
                      obtain ⟨L, hLe⟩ : ∃ L : Nat, (L : Int) = lastTo ss ks n := ⟨(lastTo ss ks n).toNat, by omega⟩
                      rw [← hLe] at hj hJb hcl hc9 ⊢
                      clear hLe
                      simp only [Int.toNat_natCast] at hcl hc9
                      have hLn : L < n := by omega
                      go_wp2_with fail
                      refine (load_any _ _ _ HCT.out).mono ?_
                      rintro e w' ⟨rfl, hw'⟩
                      rw [hw']
                      clear hw'
                      go_wp2_with fail
                      have heq := eql_same
                      go_quiet (fail)
                      go_wp2_with fail
                      go_ret
                      exact ⟨rfl, ⟨hbel.out.os, hbel.out.tape, hbel.out.output, hbel.out.size, hbel.out.block⟩⟩
                    · skip
                      have hlk := look hMr.tab.own hks hat
                      rw [hsz] at hlen
                      have heq := eql_same
                      have HCT : Hid (wr.cell? ⟨o, 0, none⟩ = some (.int .u64 7777)) := hc7
                      clear hMr hsz hc7 hat
                      go_wp2_with fail
                      refine (load_any _ _ _ HCT.out).mono ?_
                      rintro e w' ⟨rfl, hw'⟩
                      rw [hw']
                      clear hw'
                      go_wp2_with fail
                      go_ret
                      exact ⟨rfl, hbel.out⟩
end Go.Proofs.Ybulkdano.Share
