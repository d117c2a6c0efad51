import Derived.Test.YbulkdanoShareB
import Derived.RegionTactic
import Derived.Deep.RegionLaw
namespace Go.Proofs.Ybulkdano.Share
open Go.RowKit Go.Maps Go.WideMaps

/-- A cipher without a count: nothing turns. -/
theorem share_nil (B C : Nat) (kv : Value) (w : World) (hc : w.cell? ⟨C, 9, none⟩ = some (.pointer none)) :
    Calls Yba.prog 7 #[.map (some B), .pointer (some ⟨C, 0, none⟩), kv] w fun e w' => e = .returned (.tuple #[]) ∧ w' = w := by
  go_enter Yba.func7, Yba.ntmps7
  go_wp2
  refine bodyPost_ret (results_none rfl _ _ _) rfl ?_
  exact ⟨rfl, rfl⟩

/-- The key is there: the cipher takes the table's count. -/
theorem share_hit (B C : Nat) (kv : Value) (ks : ByteArray) (o q : Addr) (w : World) (hc : w.cell? ⟨C, 9, none⟩ = some (.pointer (some o))) (hz : w.frozen? ⟨C, 9, none⟩ = false)
    (hcv : (convert 23 9 kv).run Yba.prog w = .ok (.string ks) w) (hlk : (Instr.lookup 25 (.map (some B)) (.string ks) false).run Yba.prog w = .ok (.pointer (some q)) w) :
    Calls Yba.prog 7 #[.map (some B), .pointer (some ⟨C, 0, none⟩), kv] w fun e w' => e = .returned (.tuple #[]) ∧ w' = w.setCell ⟨C, 9, none⟩ (.pointer (some q)) := by
  go_enter Yba.func7, Yba.ntmps7
  go_wp2
  refine bodyPost_ret (results_none rfl _ _ _) rfl ?_
  exact ⟨rfl, rfl⟩

/-- The key is not there: the cipher's own count is entered. -/
theorem share_miss (B C E N : Nat) (D : DataW Value) (kv : Value) (ks : ByteArray) (o : Addr) (w : World) (hc : w.cell? ⟨C, 9, none⟩ = some (.pointer (some o)))
    (hk : KeyIs E kv ks w) (hks : ks.size ≤ maxLen) (hown : w.ownsMap Yba.prog 9 pe B N D) (hN : N < maxLen) (hat : D.atKey (.string ks.data.toList) (.held (.pointer none)) = .held (.pointer none)) :
    Calls Yba.prog 7 #[.map (some B), .pointer (some ⟨C, 0, none⟩), kv] w fun e w' => e = .returned (.tuple #[]) ∧ w'.ownsMap Yba.prog 9 pe B (N + 1) (D.put (.string ks.data.toList) (.held (.pointer (some o)))) ∧ w.grownBy w' (some B) := by
  have hcv := keyIs_conv hk
  have hlk := look hown hks hat
  have hcv1 : (convert 23 9 kv).run Yba.prog w.drew = .ok (.string ks) w.drew := keyIs_conv (w := w.drew) hk
  obtain ⟨w1, hrun, how, hgr⟩ := hown.drew.update law Yba.underlying25 hN (key_of ks hks) (val := .pointer (some o)) (d := .held (.pointer (some o))) (ps := []) rfl
  have HO : Hid (w1.ownsMap Yba.prog 9 pe B (N + 1) (D.put (.string ks.data.toList) (.held (.pointer (some o))))) := how
  have HG : Hid (w.grownBy w1 (some B)) := ⟨hgr.os, hgr.tape, hgr.output, hgr.size, hgr.block⟩
  clear how hgr hk hown hat
  go_enter Yba.func7, Yba.ntmps7
  go_wp2
  go_region
  all_goals (go_end0; exact ⟨rfl, HO.out, HG.out⟩)

/-- The cipher's own count: none, or a new one that holds 7777. -/
def OwnIs (a4 : Bool) (oo : Option Addr) (wc wd : World) : Prop :=
  (a4 = false ∧ oo = none ∧ wd = wc) ∨ (a4 = true ∧ oo = some ⟨wc.heap.size, 0, none⟩ ∧ wd = wc.alloc (.cells #[.int .u64 7777] 33))

/-- The new cipher's cells. -/
def cells9 (c0 c1 c2 c3 c4 c5 c6 c7 c8 c9 : Value) : Obj := .cells #[c0, c1, c2, c3, c4, c5, c6, c7, c8, c9] 43

theorem grown_new {w3 : World} (o : Obj) (i : Nat) (v : Value) : w3.grownBy ((w3.alloc o).setCell ⟨w3.heap.size, i, none⟩ v) none :=
  ⟨rfl, rfl, rfl, by simp, fun k hk _ => by
    rw [heap_setCell_other _ _ _ _ (by show k ≠ w3.heap.size; omega)]
    exact heap_alloc_old w3 o hk⟩

/-- 'm.share(c, key)', all three ways. -/
theorem share_all {W0 : World} {ss : List ByteArray} {n E : Nat} {qs : Nat → Nat} {D : DataW Value} {kv : Value} {ks : ByteArray} {a4 : Bool} {oo : Option Addr} {w2 w3 : World} (c0 c1 c2 c3 c4 c5 c6 c7 c8 : Value)
    (HT : Tab W0 n n n E qs D w3) (HD : Dat ss qs n D) (HK : KeyIs E kv ks w3) (hks : ks.size ≤ maxLen) (hn : n ≤ 1024) (HO : OwnIs a4 oo w2 w3) :
    Calls Yba.prog 7 #[.map (some W0.heap.size), .pointer (some ⟨w3.heap.size, 0, none⟩), kv] (w3.alloc (.cells #[c0, c1, c2, c3, c4, c5, c6, c7, c8, .pointer oo] 43)) fun e we =>
      e = .returned (.tuple #[]) ∧ ∃ N2 D2, Mid W0 ss n N2 E qs D2 kv ks we ∧ Fin ss n qs ks a4 (.pointer oo) w3.heap.size (Maps.size D) D2 we := by
  generalize hob : Obj.cells #[c0, c1, c2, c3, c4, c5, c6, c7, c8, .pointer oo] 43 = ob
  have hcell : (w3.alloc ob).cell? ⟨w3.heap.size, 9, none⟩ = some (.pointer oo) := by rw [← hob]; simp
  have hfz : (w3.alloc ob).frozen? ⟨w3.heap.size, 9, none⟩ = false := by rw [← hob]; simp
  have hga := World.grownBy_alloc w3 ob none
  have TA := HT.grown hga (fun k hk => by cases hk)
  have KA := HK.grown hga (fun k hk => by cases hk)
  have hE := HT.hE
  rcases HO with ⟨rfl, rfl, rfl⟩ | ⟨rfl, rfl, hw3⟩
  · refine (share_nil W0.heap.size w3.heap.size kv _ hcell).mono ?_
    rintro e we ⟨rfl, rfl⟩
    exact ⟨rfl, n, D, ⟨TA, fun s _ => HD.at_ s, KA⟩, .inl ⟨rfl, rfl, hcell, rfl, HD.has ks, HD.at_ ks⟩⟩
  · have hlt : w2.heap.size < w3.heap.size := by rw [hw3]; simp
    have ho3 : w3.cell? ⟨w2.heap.size, 0, none⟩ = some (.int .u64 7777) := by rw [hw3]; simp
    by_cases hj : 0 ≤ lastTo ss ks n
    · have hmv : mv ss qs n ks = .pointer (some ⟨qs (lastTo ss ks n).toNat, 0, none⟩) := by unfold mv; rw [if_pos hj]
      have hlk := look TA.own hks (v := .pointer (some ⟨qs (lastTo ss ks n).toNat, 0, none⟩)) (by rw [← hmv]; exact HD.at_ ks)
      refine (share_hit W0.heap.size w3.heap.size kv ks _ _ _ hcell hfz (keyIs_conv KA) hlk).mono ?_
      rintro e we ⟨rfl, rfl⟩
      have hgn := grown_new (w3 := w3) ob 9 (.pointer (some ⟨qs (lastTo ss ks n).toNat, 0, none⟩))
      refine ⟨rfl, n, D, ⟨HT.grown hgn (fun k hk => by cases hk), fun s _ => HD.at_ s, HK.grown hgn (fun k hk => by cases hk)⟩, .inr ⟨_, rfl, rfl, hgn.cell ho3 (by simp), .inl ⟨hj, World.cell?_setCell_same _ _ _ hcell, rfl⟩⟩⟩
    · have hmv : mv ss qs n ks = .pointer none := by unfold mv; rw [if_neg hj]
      have hat : D.atKey (.string ks.data.toList) (.held (.pointer none)) = .held (.pointer none) := (HD.at_ ks).trans (by rw [hmv])
      refine (share_miss W0.heap.size w3.heap.size E n D kv ks _ _ hcell KA hks TA.own (by unfold maxLen; omega) hat).mono ?_
      rintro e we ⟨rfl, how, hgr⟩
      have hho : Maps.has D (.string ks.data.toList) = false := by rw [HD.has ks]; simpa using hj
      refine ⟨rfl, n + 1, _, ⟨TA.put hgr how, fun s hs => ?_, KA.grown hgr (fun k hk => by cases hk; left; omega)⟩, .inr ⟨_, rfl, rfl, hgr.cell (hga.cell ho3 (by simp)) ?_, .inr ⟨by omega, hgr.cell hcell ?_, Maps.atKey_put_same HT.own.isMap (isKey ks) _ _, ?_⟩⟩⟩
      · rw [Maps.atKey_put_other (key_ne (fun e => hj (by rw [← e]; exact hs)))]
        exact HD.at_ s
      · have := HT.bel.size
        intro e
        have e' : w2.heap.size = W0.heap.size := by simpa using e
        rw [hw3] at hE
        have hm := HT.own
        obtain ⟨es, cl, hb, _⟩ := hm
        rw [← e', hw3] at hb
        rw [heap_alloc_new] at hb
        cases hb
      · intro e
        have e' : w3.heap.size = W0.heap.size := by simpa using e
        omega
      · rw [Maps.size_put (HT.own.tidy law), hho]
        simp

set_option maxRecDepth 100000 in
/-- Too long: nothing is done. -/
theorem walk_long (a : Option Addr) (len cap : Nat) (ra : Option Addr) (rlen rcap : Nat) (a2 : Bool) (a3 : Int) (a4 : Bool) (w : World) (h : 1024 < len ∨ 1024 < rlen) :
    Calls Yba.prog 3 #[.slice a len cap, .slice ra rlen rcap, .bool a2, .int .u8 a3, .bool a4] w fun e w' => e = .returned (.bool true) ∧ Below w.heap.size w w' := by
  by_cases h1 : 1024 < len
  · clear h
    go_enter Yba.func3, Yba.ntmps3
    go_wp2
    go_ret
    exact ⟨rfl, Below.refl _ _⟩
  · have h2 : 1024 < rlen := by omega
    clear h
    go_enter Yba.func3, Yba.ntmps3
    go_wp2
    go_ret
    exact ⟨rfl, Below.refl _ _⟩

end Go.Proofs.Ybulkdano.Share
