import Derived.Test.YbulkdaskAdvB
import Derived.Test.YbulkdaskSort
import Derived.Test.YbulkdaskVals
namespace Go.Proofs.Ybulkdask.Hp
open Go.RowKit Go.Proofs.Ybulkdask.Tm Go.Proofs.Ybulkdask.Clk Go.Proofs.Ybulkdask.Lk
set_option linter.unusedSimpArgs false
set_option linter.unusedVariables false

def due (zs : List Int) (i : Nat) : Nat := (zs.getD i 0 % 1000).toNat

theorem due_int (zs : List Int) (i : Nat) (h : 0 ≤ zs.getD i 0) : ((due zs i : Nat) : Int) = zs.getD i 0 % 1000 := by
  unfold due
  omega

/-- The state ahead of the first timer. -/
theorem St.start {w : World} {B M Lg V Bs Ph : Nat} {dd : Nat → Nat} (hM : Bk w M (Hp.man M 0 0 0 (.slice none 0 0) 0) 91) (hL : Bk w Lg #[.slice none 0 0] 30) (hV : Bk w V #[.pointer (some ⟨M, 0, none⟩)] 28) (hB : Bk w Bs #[.int .u64 0, .int .i64 0, .pointer none] 27) (hP : Bk w Ph #[.int .i64 0] 3) (bL : B ≤ Lg) (bM : B ≤ M) :
    St w B M Lg V Bs Ph (fun _ => 0) (fun _ => 0) dd 0 0 0 0 (.slice none 0 0) [] [] 0 :=
  ⟨⟨World.ownsRow_nil _ _ _ _, fun i hi => absurd hi (by omega), fun i hi => by cases hi⟩, hM, ⟨_, hL, World.ownsRow_nil _ _ _ _⟩, fun i hi => absurd hi (by omega), hV, hB, hP, fun k _ hk => absurd hk (by simp), bL, bM⟩

theorem fvOf_upd (Lg V Bs Ph : Nat) (Kb : Nat → Nat) (n k : Nat) : upd (fvOf Lg V Bs Ph Kb) n (.func (.func 8) #[] #[.pointer (some ⟨Lg, 0, none⟩), .pointer (some ⟨k, 0, none⟩), .pointer (some ⟨V, 0, none⟩), .pointer (some ⟨Bs, 0, none⟩), .pointer (some ⟨Ph, 0, none⟩)]) = fvOf Lg V Bs Ph (upd Kb n k) := by
  funext i
  unfold upd fvOf
  by_cases h : i = n
  · simp [h]
  · simp [h]

/-- One timer more. -/
theorem St.more {w w' : World} {B M Lg V Bs Ph : Nat} {P Kb dd : Nat → Nat} {N : Nat} {pend pend' : Value} {h h' : List Nat} {l : List (Nat × Int)} {ph : Int} {k D : Nat} (s : St w B M Lg V Bs Ph P Kb dd N 0 0 0 pend h l ph) (hk : Bk w k #[.int .i64 (N : Int)] 3)
    (hp : Ord.isHeap dd h' h'.length) (H : HeapAt w' B M (upd P N D) dd (upd (fvOf Lg V Bs Ph Kb) N (.func (.func 8) #[] #[.pointer (some ⟨Lg, 0, none⟩), .pointer (some ⟨k, 0, none⟩), .pointer (some ⟨V, 0, none⟩), .pointer (some ⟨Bs, 0, none⟩), .pointer (some ⟨Ph, 0, none⟩)])) (N + 1) pend' h')
    (hM : Bk w' M (Hp.man M 0 0 0 pend' ((N : Int) + 1)) 91) (f : Fr B [91, 93, 95] w w') : St w' B M Lg V Bs Ph (upd P N D) (upd Kb N k) dd (N + 1) 0 0 0 pend' h' l ph := by
  rw [fvOf_upd] at H
  obtain ⟨lv, h1, h2⟩ := s.L
  refine ⟨H, hM, ⟨lv, h1.fr f (by decide), own_fr h2 f (by decide)⟩, ?_, s.V.fr f (by decide), s.Bs.fr f (by decide), s.Ph.fr f (by decide), hp, s.bL, s.bM⟩
  intro i hi
  by_cases e : i = N
  · subst e; rw [upd_same]; exact hk.fr f (by decide)
  · rw [upd_lt _ _ _ (by omega)]; exact (s.K i (by omega)).fr f (by decide)

theorem Hid.mk' {p : Prop} (h : p) : Hid p := h

theorem sub0 (m : Int) (w : World) (h0 : 0 ≤ m) (h1 : m < 1000000000) : Calls Yba.prog 10 #[.agg #[.int .u64 m, .int .i64 0, .pointer none], .agg #[.int .u64 0, .int .i64 0, .pointer none]] w fun e w' => e = .returned (.int .i64 m) ∧ Below w.heap.size w w' := by
  have := sub_any m 0 0 0 w h0 h1 (by decide) (by decide) (by decide) (by decide) (by omega) (by omega)
  rw [show ((0 : Int) - 0) * 1000000000 + (m - 0) = m by omega] at this
  exact this

/-- The phase turned. -/
theorem St.phase {w : World} {B M Lg V Bs Ph : Nat} {P Kb dd : Nat → Nat} {N : Nat} {adv mu now : Int} {pend : Value} {h : List Nat} {l : List (Nat × Int)} {ph : Int} (s : St w B M Lg V Bs Ph P Kb dd N adv mu now pend h l ph) (hk : ∀ i, i < N → Kb i ≠ Ph) (q : Int) : St (w.setCell ⟨Ph, 0, none⟩ (.int .i64 q)) B M Lg V Bs Ph P Kb dd N adv mu now pend h l q := by
  have f : Fr 0 [3] w (w.setCell ⟨Ph, 0, none⟩ (.int .i64 q)) := (Fr.refl _ _ _).set s.Ph (Nat.zero_le _) (by decide) _
  obtain ⟨lv, h1, h2⟩ := s.L
  exact ⟨s.H.fr f (by decide) (by decide), s.Mb.fr f (by decide), ⟨lv, h1.fr f (by decide), own_fr h2 f (by decide)⟩, fun i hi => (s.K i hi).put (hk i hi), s.V.fr f (by decide), s.Bs.fr f (by decide), s.Ph.set 0 _, s.hp, s.bL, s.bM⟩

set_option maxHeartbeats 6400000 in
set_option maxRecDepth 100000 in
theorem law (a : Option Addr) (b off len cap : Nat) (zs : List Int) (z1 z2 : Int) (w : World) (hl : len ≤ 1024)
    (ha : 0 < len → a = some ⟨b, off, none⟩) (hb : 0 < len → b < w.heap.size) (hc : ∀ j, j < len → w.cell? ⟨b, off + j, none⟩ = some (.int .u16 (zs.getD j 0))) (hz : ∀ j, 0 ≤ zs.getD j 0 ∧ zs.getD j 0 < 65536)
    (h10 : 0 ≤ z1) (h11 : z1 < 65536) (h20 : 0 ≤ z2) (h21 : z2 < 65536) :
    Calls Yba.prog 3 #[.slice a len cap, .int .u16 z1, .int .u16 z2] w fun e w' => e = .returned (.bool true) ∧ Below w.heap.size w w' := by
  have HA : Hid (0 < len → a = some ⟨b, off, none⟩) := ha
  have HB : Hid (0 < len → b < w.heap.size) := hb
  have HC : Hid (∀ j, j < len → w.cell? ⟨b, off + j, none⟩ = some (.int .u16 (zs.getD j 0))) := hc
  have HZ : Hid (∀ j, 0 ≤ zs.getD j 0 ∧ zs.getD j 0 < 65536) := hz
  have HDD : Hid (∀ i, due zs i < 1000) := by
    show ∀ i, due zs i < 1000
    intro i
    unfold due
    omega
  clear ha hb hc hz
  have hgt : ¬ ((1024 : Int) < (len : Int)) := by omega
  go_enter Yba.func3, Yba.ntmps3
  go_wp2_with fail
  refine (newManual _).mono ?_
  rintro e w1 ⟨rfl, hM, hB1⟩
  simp only [World.size_alloc] at hM hB1
  have hBs : Bk w1 w.heap.size #[.int .u64 0, .int .i64 0, .pointer none] 27 := (Bk.new w _ _).below hB1 (by omega)
  have hsz : w.heap.size + 1 ≤ w1.heap.size := by have := hB1.size; simp at this; omega
  obtain ⟨W, hW⟩ : ∃ W, W = (((w1.alloc (.cells #[.pointer (some ⟨w.heap.size + 1 + 1, 0, none⟩)] 28)).alloc (.cells #[.slice none 0 0] 30)).alloc (.cells #[.int .i64 0] 3)) := ⟨_, rfl⟩
  have HS0 : Hid (St W w.heap.size (w.heap.size + 1 + 1) (w1.heap.size + 1) w1.heap.size w.heap.size (w1.heap.size + 1 + 1) (fun _ => 0) (fun _ => 0) (due zs) 0 0 0 0 (.slice none 0 0) [] [] 0) := by
    rw [hW]
    refine St.start (((hM.alloc _).alloc _).alloc _) ?_ (((Bk.new w1 _ _).alloc _).alloc _) (((hBs.alloc _).alloc _).alloc _) ?_ (by omega) (by omega)
    · have := (Bk.new (w1.alloc (.cells #[.pointer (some ⟨w.heap.size + 1 + 1, 0, none⟩)] 28)) #[.slice none 0 0] 30).alloc (.cells #[.int .i64 0] 3)
      simpa using this
    · have := Bk.new ((w1.alloc (.cells #[.pointer (some ⟨w.heap.size + 1 + 1, 0, none⟩)] 28)).alloc (.cells #[.slice none 0 0] 30)) #[.int .i64 0] 3
      simpa using this
  have HB0 : Hid (Below w.heap.size w W) := by
    rw [hW]
    have h1 : Below w.heap.size w w1 := ((Below.refl _ _).alloc (Nat.le_refl _) _).trans (hB1.mono (by omega))
    exact ((h1.alloc (by omega) _).alloc (by simp; omega) _).alloc (by simp; omega) _
  clear hM hB1 hBs
  go_wp2_with fail
  rw [← hW]
  clear hW
  have HPH : w.heap.size ≤ w1.heap.size + 1 + 1 := by omega
  generalize w1.heap.size + 1 + 1 = Ph at HS0 HPH ⊢
  generalize w1.heap.size + 1 = Lg at HS0 ⊢
  generalize w1.heap.size = V at HS0 ⊢
  generalize w.heap.size + 1 + 1 = M at HS0 ⊢
  have HPL0 : Hid (w.heap.size ≤ Ph) := HPH
  clear HPH hsz w1
  go_loopg [11] len (fun k i wr => ∃ n : Nat, n + k = len ∧ i = .int .i64 (n : Int) ∧ ∃ P Kb pend h, Hid (St wr w.heap.size M Lg V w.heap.size Ph P Kb (due zs) n 0 0 0 pend h [] 0) ∧ Hid (h.Perm (List.range n)) ∧ Hid (∀ i, i < n → Kb i ≠ Ph) ∧ Hid (Below w.heap.size w wr))
  case atStart => exact ⟨0, by omega, rfl, _, _, _, [], HS0, List.Perm.refl _, fun i hi => absurd hi (by omega), HB0⟩
  case round =>
    clear HS0 HB0 W
    obtain ⟨n, hn, rfl, P, Kb, pend, h, hS, hP, hKP, hBe⟩ := hrel
    by_cases hlt : n < len
    · have hae : a = some ⟨b, off, none⟩ := HA.out (by omega)
      subst hae
      have hltI : (n : Int) < (len : Int) := by omega
      obtain ⟨z, hze⟩ : ∃ z, z = zs.getD n 0 := ⟨_, rfl⟩
      have hz0 : 0 ≤ z := by rw [hze]; exact (HZ.out n).1
      have hz1 : z < 65536 := by rw [hze]; exact (HZ.out n).2
      have hcz : wr.cell? ⟨b, off + n, none⟩ = some (.int .u16 z) := by rw [hze]; exact (hBe.out.cell (HB.out (by omega))).trans (HC.out n hlt)
      have hdu : ((due zs n : Nat) : Int) = z % 1000 := by rw [hze]; exact due_int zs n (HZ.out n).1
      have HDU : Hid (((due zs n : Nat) : Int) = z % 1000) := hdu
      have HZE : Hid (z = zs.getD n 0) := hze
      have HPL : Hid (Ph < wr.heap.size) := hS.out.Ph.lt
      have hcV : wr.cell? ⟨V, 0, none⟩ = some (.pointer (some ⟨M, 0, none⟩)) := hS.out.V.cell 0 rfl
      have hwn : IntKind.i64.wrap ((n : Int) + 1) = (n : Int) + 1 := by rw [IntKind.wrap_i64]; omega
      have hbs : b < wr.heap.size := Nat.lt_of_lt_of_le (HB.out (by omega)) hBe.out.size
      have hVs := hS.out.V.lt
      have HK : Hid (Bk (wr.alloc (.cells #[.int .i64 (n : Int)] 3)) wr.heap.size #[.int .i64 (n : Int)] 3) := Bk.new _ _ _
      have HSA : Hid (St (wr.alloc (.cells #[.int .i64 (n : Int)] 3)) w.heap.size M Lg V w.heap.size Ph P Kb (due zs) n 0 0 0 pend h [] 0) := hS.out.below ((Below.refl _ _).alloc (Nat.le_refl _) _)
      have HBA : Hid (Below w.heap.size w (wr.alloc (.cells #[.int .i64 (n : Int)] 3))) := hBe.out.alloc hBe.out.size _
      clear hze hdu hS hBe
      go_upto_region 11 with fail
      refine wp_region_held_drew (S := (fun w' => w'.cell? ⟨V, 0, none⟩ = some (.pointer (some ⟨M, 0, none⟩)) ∧ w'.cell? ⟨b, off + n, none⟩ = some (.int .u16 z))) (by kernel_rfl) (by go_keep) (fun hHeld => ?_)
      refine wpAnyH_take (i := 0) (oi := { dst := some 37, op := Go.Op.load 28 (Go.Operand.tmp 8), type := 28, pos := "zz_law_s5106b.go:27", after := #[], guard := none }) (v := .pointer (some ⟨M, 0, none⟩)) rfl (by kernel_rfl) (by kernel_rfl) (by kernel_rfl) (fun _ _ _ h => h) (Or.inl ⟨by rfl, (fun w hSw => by (try dsimp only at hSw); go_simp)⟩) (by assumption) ?_
      try simp only [Act.put, List.setIfInBounds_toArray, List.set_cons_zero, List.set_cons_succ]
      refine wpAnyH_take (i := 1) (oi := { dst := some 38, op := Go.Op.move (Go.Operand.tmp 0), type := 22, pos := "zz_law_s5106b.go:27", after := #[], guard := none }) (v := .slice (some ⟨b, off, none⟩) len cap) rfl (by kernel_rfl) (by kernel_rfl) (by kernel_rfl) (fun _ _ _ h => h) (Or.inl ⟨by rfl, (fun w hSw => by (try dsimp only at hSw); go_simp)⟩) (by assumption) ?_
      try simp only [Act.put, List.setIfInBounds_toArray, List.set_cons_zero, List.set_cons_succ]
      refine wpAnyH_take (i := 2) (oi := { dst := some 39, op := Go.Op.move (Go.Operand.tmp 11), type := 3, pos := "zz_law_s5106b.go:27", after := #[], guard := none }) (v := .int .i64 (n : Int)) rfl (by kernel_rfl) (by kernel_rfl) (by kernel_rfl) (fun _ _ _ h => h) (Or.inl ⟨by rfl, (fun w hSw => by (try dsimp only at hSw); go_simp)⟩) (by assumption) ?_
      try simp only [Act.put, List.setIfInBounds_toArray, List.set_cons_zero, List.set_cons_succ]
      refine wpAnyH_take (i := 3) (oi := { dst := some 40, op := Go.Op.indexAddr 22 (Go.Operand.tmp 38) (Go.Operand.tmp 39), type := 0, pos := "zz_law_s5106b.go:27", after := #[{ on := 1, ground := Go.Ground.data }, { on := 2, ground := Go.Ground.data }], guard := none }) (v := .pointer (some ⟨b, off + n, none⟩)) rfl (by kernel_rfl) (by kernel_rfl) (by kernel_rfl) (fun _ _ _ h => h) (Or.inl ⟨by rfl, (fun w hSw => by (try dsimp only at hSw); go_simp)⟩) (by assumption) ?_
      try simp only [Act.put, List.setIfInBounds_toArray, List.set_cons_zero, List.set_cons_succ]
      refine wpAnyH_take (i := 4) (oi := { dst := some 41, op := Go.Op.load 23 (Go.Operand.tmp 40), type := 23, pos := "zz_law_s5106b.go:27", after := #[{ on := 3, ground := Go.Ground.data }], guard := none }) (v := .int .u16 z) rfl (by kernel_rfl) (by kernel_rfl) (by kernel_rfl) (fun _ _ _ h => h) (Or.inl ⟨by rfl, (fun w hSw => by (try dsimp only at hSw); go_simp)⟩) (by assumption) ?_
      try simp only [Act.put, List.setIfInBounds_toArray, List.set_cons_zero, List.set_cons_succ]
      refine wpAnyH_take (i := 6) (oi := { dst := some 43, op := Go.Op.makeFunc (Go.Fn.func 8) #[] #[Go.Operand.tmp 9, Go.Operand.tmp 12, Go.Operand.tmp 8, Go.Operand.tmp 7, Go.Operand.tmp 10], type := 1, pos := "zz_law_s5106b.go:27", after := #[], guard := none }) (v := .func (.func 8) #[] #[.pointer (some ⟨Lg, 0, none⟩), .pointer (some ⟨wr.heap.size, 0, none⟩), .pointer (some ⟨V, 0, none⟩), .pointer (some ⟨w.heap.size, 0, none⟩), .pointer (some ⟨Ph, 0, none⟩)]) rfl (by kernel_rfl) (by kernel_rfl) (by kernel_rfl) (fun _ _ _ h => h) (Or.inl ⟨by rfl, (fun w hSw => by (try dsimp only at hSw); go_simp)⟩) (by assumption) ?_
      try simp only [Act.put, List.setIfInBounds_toArray, List.set_cons_zero, List.set_cons_succ]
      refine wpAnyH_ready (rs := [5]) (by kernel_rfl) (by simp) ?_
      refine AllReadyH.cons (o := { dst := some 42, op := Go.Op.call { callee := Go.Callee.value (Go.Operand.func 7), args := #[Go.Operand.tmp 41], argTypes := #[23] }, type := 34, pos := "zz_law_s5106b.go:27", after := #[{ on := 4, ground := Go.Ground.data }], guard := none }) rfl (fun K hK => ?_) AllReadyH.nil
      go_simp
      refine (clamp_any z _ hz0 hz1).mono ?_
      rintro e w' ⟨rfl, hw'⟩
      rw [hw']
      clear hw'
      go_wp2_with fail
      refine hK.out _ _ (hHeld) (fun hHeld => ?_)
      clear hK K
      try simp only [Act.put, List.setIfInBounds_toArray, List.set_cons_zero, List.set_cons_succ]
      refine wpAnyH_ready (rs := [7]) (by kernel_rfl) (by simp) ?_
      refine AllReadyH.cons (o := { dst := some 44, op := Go.Op.call { callee := Go.Callee.value (Go.Operand.func 6), args := #[Go.Operand.tmp 37, Go.Operand.tmp 42, Go.Operand.tmp 43], argTypes := #[28, 34, 1] }, type := 32, pos := "zz_law_s5106b.go:27", after := #[{ on := 0, ground := Go.Ground.data }, { on := 5, ground := Go.Ground.data }, { on := 6, ground := Go.Ground.data }, { on := 5, ground := Go.Ground.chain }], guard := none }) rfl (fun K hK => ?_) AllReadyH.nil
      go_simp
      have sD := HSA.out.below (Below.refl (wr.alloc (.cells #[.int .i64 (n : Int)] 3)).heap.size (wr.alloc (.cells #[.int .i64 (n : Int)] 3))).drew
      rw [← HDU.out]
      have hln : h.length = n := by rw [hP.out.length_eq, List.length_range]
      refine (after_any _ w.heap.size M P (due zs) (fvOf Lg V w.heap.size Ph Kb) n pend h _ #[] _ sD.H sD.Mb (by omega) (by omega) sD.bM (by have := HBA.out.size; simpa using this) HDD.out sD.hp).mono ?_
      rintro e w4 ⟨⟨v, rfl⟩, D, pend', h', hperm, hheap, hH4, hM4, hF4⟩
      have HS4 : Hid (St w4 w.heap.size M Lg V w.heap.size Ph (upd P n D) (upd Kb n wr.heap.size) (due zs) (n + 1) 0 0 0 pend' h' [] 0) := sD.more HK.out hheap hH4 hM4 hF4
      have HB4 : Hid (Below w.heap.size w w4) := HBA.out.drew.trans (hF4.toBelow (by have := HBA.out.size; simpa using this))
      have HP4 : Hid (h'.Perm (List.range (n + 1))) := by
        show h'.Perm (List.range (n + 1))
        rw [List.range_succ]
        exact hperm.trans ((List.Perm.cons n hP.out).trans (List.perm_append_singleton n (List.range n)).symm)
      have HKP4 : Hid (∀ i, i < n + 1 → upd Kb n wr.heap.size i ≠ Ph) := by
        show ∀ i, i < n + 1 → upd Kb n wr.heap.size i ≠ Ph
        intro i hi
        by_cases e : i = n
        · subst e
          rw [upd_same]
          have h1 := HPL.out
          omega
        · rw [upd_lt _ _ _ (by omega)]
          exact hKP.out i (by omega)
      have hS4 : w4.cell? ⟨V, 0, none⟩ = some (.pointer (some ⟨M, 0, none⟩)) ∧ w4.cell? ⟨b, off + n, none⟩ = some (.int .u16 z) := ⟨HS4.out.V.cell 0 rfl, ((HB4.out.cell (HB.out (by omega))).trans (HC.out n hlt)).trans (by rw [HZE.out])⟩
      clear sD hperm hheap hH4 hM4 hF4 hln HSA HBA HK hKP hP hHeld
      go_wp2_with fail
      refine hK.out _ _ (hS4) (fun hHeld => ?_)
      clear hK K
      try simp only [Act.put, List.setIfInBounds_toArray, List.set_cons_zero, List.set_cons_succ]
      refine wpAnyH_done (by kernel_rfl) ?_ _
      go_wp2_with fail
      go_roundg (gk - 1)
      case rel => exact ⟨n + 1, by omega, rfl, upd P n D, upd Kb n wr.heap.size, pend', h', HS4, HP4, HKP4, HB4⟩
      all_goals omega
    · have hnl : n = len := by omega
      subst hnl
      clear hn
      obtain ⟨srt, hsp, hss⟩ := Ord.sorted_ex (due zs) n
      have HSS : Hid (srt.Pairwise (Ord.lt (due zs))) := hss
      have HSP : Hid (srt.Perm (List.range n)) := hsp
      have HHS : Hid (h.Perm srt) := hP.out.trans hsp.symm
      have hsl : srt.length = n := by rw [hsp.length_eq, List.length_range]
      obtain ⟨x1, hx1⟩ : ∃ x1, x1 = z1 % 1000 := ⟨_, rfl⟩
      obtain ⟨x2, hx2⟩ : ∃ x2, x2 = z2 % 1000 := ⟨_, rfl⟩
      obtain ⟨D1, hD1⟩ : ∃ D1 : Nat, (D1 : Int) = x1 := ⟨x1.toNat, by omega⟩
      obtain ⟨D2, hD2⟩ : ∃ D2 : Nat, (D2 : Int) = x2 := ⟨x2.toNat, by omega⟩
      have x10 : 0 ≤ x1 ∧ x1 < 1000 := by omega
      have x20 : 0 ≤ x2 ∧ x2 < 1000 := by omega
      have hxx : IntKind.i64.wrap (x1 + x2) = x1 + x2 := by rw [IntKind.wrap_i64]; omega
      have hcV : wr.cell? ⟨V, 0, none⟩ = some (.pointer (some ⟨M, 0, none⟩)) := hS.out.V.cell 0 rfl
      have HADV : Hid (Calls Yba.prog 11 #[.pointer (some ⟨M, 0, none⟩), .int .i64 x1] wr fun e w' => e = .returned (.tuple #[]) ∧ ∃ a b pend' h', srt = a ++ b ∧ (∀ x ∈ a, due zs x ≤ D1) ∧ (∀ x ∈ b, D1 < due zs x) ∧ h'.Perm b ∧ St w' w.heap.size M Lg V w.heap.size Ph P Kb (due zs) n 0 0 x1 pend' h' (a.map (fun x => (x, 0))) 0 ∧ Fr w.heap.size [91, 93, 95, 30, 39] wr w') := by
        have := advance_any wr w.heap.size M Lg V w.heap.size Ph P Kb (due zs) n 0 D1 pend h srt [] 0 hS.out HSS.out HHS.out (fun x _ => Nat.zero_le _) (by omega) (by simp only [List.length_nil]; omega) HDD.out hBe.out.size
        simp only [Nat.zero_add, List.nil_append, hD1] at this
        exact this
      have HCL1 : Hid (∀ w, Calls Yba.prog 7 #[.int .u16 z1] w fun e w' => e = .returned (.int .i64 x1) ∧ w' = w) := by
        show ∀ w, _
        intro w
        rw [hx1]
        exact clamp_any z1 w h10 h11
      have HCL2 : Hid (∀ w, Calls Yba.prog 7 #[.int .u16 z2] w fun e w' => e = .returned (.int .i64 x2) ∧ w' = w) := by
        show ∀ w, _
        intro w
        rw [hx2]
        exact clamp_any z2 w h20 h21
      have HX1 : Hid ((D1 : Int) = x1) := hD1
      have HX2 : Hid ((D2 : Int) = x2) := hD2
      have HSL : Hid (srt.length = n) := hsl
      clear hss hsp hsl hP hx1 hx2 hD1 hD2 h10 h11 h20 h21
      go_wp2_with fail
      refine (HCL1.out _).mono ?_
      rintro e w' ⟨rfl, hw'⟩
      rw [hw']
      clear hw'
      go_wp2_with fail
      refine (HCL2.out _).mono ?_
      rintro e w' ⟨rfl, hw'⟩
      rw [hw']
      clear hw'
      go_wp2_with fail
      refine HADV.out.mono ?_
      rintro e wA ⟨rfl, a1, b1, pend1, h1, e1, e2, e3, e4, sA, fA⟩
      have HSA : Hid (St wA w.heap.size M Lg V w.heap.size Ph P Kb (due zs) n 0 0 x1 pend1 h1 (a1.map (fun x => (x, 0))) 0) := sA
      have HBA : Hid (Below w.heap.size w wA) := hBe.out.trans (fA.toBelow hBe.out.size)
      have HSPL : Hid (srt = a1 ++ b1 ∧ (∀ x ∈ a1, due zs x ≤ D1) ∧ (∀ x ∈ b1, D1 < due zs x) ∧ h1.Perm b1) := ⟨e1, e2, e3, e4⟩
      clear sA fA e1 e2 e3 e4 HADV hS hBe HHS HCL1 HCL2 hcV
      go_upto_region 15 with fail
      have cV : wA.cell? ⟨V, 0, none⟩ = some (.pointer (some ⟨M, 0, none⟩)) := HSA.out.V.cell 0 rfl
      have b0 : wA.cell? ⟨w.heap.size, 0, none⟩ = some (.int .u64 0) := HSA.out.Bs.cell 0 rfl
      have b1' : wA.cell? ⟨w.heap.size, 1, none⟩ = some (.int .i64 0) := HSA.out.Bs.cell 1 rfl
      have b2' : wA.cell? ⟨w.heap.size, 2, none⟩ = some (.pointer none) := HSA.out.Bs.cell 2 rfl
      refine wp_region_held_drew (S := (fun w' => w'.cell? ⟨V, 0, none⟩ = some (.pointer (some ⟨M, 0, none⟩)) ∧ w'.cell? ⟨w.heap.size, 0, none⟩ = some (.int .u64 0) ∧ w'.cell? ⟨w.heap.size, 1, none⟩ = some (.int .i64 0) ∧ w'.cell? ⟨w.heap.size, 2, none⟩ = some (.pointer none))) (by kernel_rfl) (by go_keep) (fun hHeld => ?_)
      clear cV b0 b1' b2'
      refine wpAnyH_take (i := 0) (oi := { dst := some 52, op := Go.Op.load 28 (Go.Operand.tmp 8), type := 28, pos := "zz_law_s5106b.go:34", after := #[], guard := none }) (v := .pointer (some ⟨M, 0, none⟩)) rfl (by kernel_rfl) (by kernel_rfl) (by kernel_rfl) (fun _ _ _ h => h) (Or.inl ⟨by rfl, (fun w hSw => by (try dsimp only at hSw); go_simp)⟩) (by assumption) ?_
      try simp only [Act.put, List.setIfInBounds_toArray, List.set_cons_zero, List.set_cons_succ]
      refine wpAnyH_take (i := 2) (oi := { dst := some 54, op := Go.Op.load 27 (Go.Operand.tmp 7), type := 27, pos := "zz_law_s5106b.go:34", after := #[], guard := none }) (v := .agg #[.int .u64 0, .int .i64 0, .pointer none]) rfl (by kernel_rfl) (by kernel_rfl) (by kernel_rfl) (fun _ _ _ h => h) (Or.inl ⟨by rfl, (fun w hSw => by (try dsimp only at hSw); go_simp)⟩) (by assumption) ?_
      try simp only [Act.put, List.setIfInBounds_toArray, List.set_cons_zero, List.set_cons_succ]
      refine wpAnyH_take (i := 4) (oi := { dst := some 56, op := Go.Op.move (Go.Operand.tmp 13), type := 34, pos := "zz_law_s5106b.go:34", after := #[], guard := none }) (v := .int .i64 x1) rfl (by kernel_rfl) (by kernel_rfl) (by kernel_rfl) (fun _ _ _ h => h) (Or.inl ⟨by rfl, (fun w hSw => by (try dsimp only at hSw); go_simp)⟩) (by assumption) ?_
      try simp only [Act.put, List.setIfInBounds_toArray, List.set_cons_zero, List.set_cons_succ]
      refine wpAnyH_ready (rs := [1]) (by kernel_rfl) (by simp) ?_
      refine AllReadyH.cons (o := { dst := some 53, op := Go.Op.call { callee := Go.Callee.value (Go.Operand.func 9), args := #[Go.Operand.tmp 52], argTypes := #[28] }, type := 27, pos := "zz_law_s5106b.go:34", after := #[{ on := 0, ground := Go.Ground.data }], guard := none }) rfl (fun K hK => ?_) AllReadyH.nil
      go_simp
      have sD := HSA.out.below (Below.refl wA.heap.size wA).drew
      refine (now_any w.heap.size M 0 _ _ _ _ sD.bM sD.Mb).mono ?_
      rintro e X1 ⟨rfl, hM1, hF1⟩
      have SX1 := Hp.Hid.mk' (sD.man hM1 hF1)
      have BX1 : Hid (Below w.heap.size w X1) := HBA.out.drew.trans (hF1.toBelow (by simpa using HBA.out.size))
      clear sD hM1 hF1 hHeld HSA HBA
      go_wp2_with fail
      refine hK.out _ _ (⟨SX1.out.V.cell 0 rfl, SX1.out.Bs.cell 0 rfl, SX1.out.Bs.cell 1 rfl, SX1.out.Bs.cell 2 rfl⟩) (fun hHeld => ?_)
      clear hK K
      try simp only [Act.put, List.setIfInBounds_toArray, List.set_cons_zero, List.set_cons_succ]
      refine wpAnyH_ready (rs := [3]) (by kernel_rfl) (by simp) ?_
      refine AllReadyH.cons (o := { dst := some 55, op := Go.Op.call { callee := Go.Callee.value (Go.Operand.func 10), args := #[Go.Operand.tmp 53, Go.Operand.tmp 54], argTypes := #[27, 27] }, type := 34, pos := "zz_law_s5106b.go:34", after := #[{ on := 1, ground := Go.Ground.data }, { on := 2, ground := Go.Ground.data }, { on := 1, ground := Go.Ground.chain }], guard := none }) rfl (fun K hK => ?_) AllReadyH.nil
      go_simp
      refine (sub0 _ X1 (by omega) (by omega)).mono ?_
      rintro e X2 ⟨rfl, hB2⟩
      have SX2 := Hp.Hid.mk' (SX1.out.below hB2)
      have BX2 : Hid (Below w.heap.size w X2) := BX1.out.trans (hB2.mono BX1.out.size)
      clear hB2 hHeld SX1 BX1
      go_wp2_with fail
      refine hK.out _ _ (⟨SX2.out.V.cell 0 rfl, SX2.out.Bs.cell 0 rfl, SX2.out.Bs.cell 1 rfl, SX2.out.Bs.cell 2 rfl⟩) (fun hHeld => ?_)
      clear hK K
      try simp only [Act.put, List.setIfInBounds_toArray, List.set_cons_zero, List.set_cons_succ]
      refine wpAnyH_take (i := 5) (oi := { dst := some 57, op := Go.Op.binOp Go.BinOp.neq 34 (Go.Operand.tmp 55) (Go.Operand.tmp 56) 34, type := 4, pos := "zz_law_s5106b.go:34", after := #[{ on := 3, ground := Go.Ground.data }, { on := 4, ground := Go.Ground.data }], guard := none }) (v := .bool false) rfl (by kernel_rfl) (by kernel_rfl) (by kernel_rfl) (fun _ _ _ h => h) (Or.inl ⟨by rfl, (fun w hSw => by (try dsimp only at hSw); go_simp)⟩) (by assumption) ?_
      try simp only [Act.put, List.setIfInBounds_toArray, List.set_cons_zero, List.set_cons_succ]
      refine wpAnyH_done (by kernel_rfl) ?_ _
      clear hHeld X1
      have hph : X2.cell? ⟨Ph, 0, none⟩ = some (.int .i64 0) := SX2.out.Ph.cell 0 rfl
      have fph := SX2.out.Ph.free 0
      obtain ⟨wC, hwC⟩ : ∃ wC, wC = X2.setCell ⟨Ph, 0, none⟩ (.int .i64 1) := ⟨_, rfl⟩
      have HSC : Hid (St wC w.heap.size M Lg V w.heap.size Ph P Kb (due zs) n 0 0 x1 pend1 h1 (a1.map (fun x => (x, 0))) 1) := by rw [hwC]; exact SX2.out.phase hKP.out 1
      have HBC : Hid (Below w.heap.size w wC) := by rw [hwC]; exact BX2.out.setCell HPL0.out _
      have HADV : Hid (Calls Yba.prog 11 #[.pointer (some ⟨M, 0, none⟩), .int .i64 x2] wC fun e w' => e = .returned (.tuple #[]) ∧ ∃ a b pend' h', b1 = a ++ b ∧ (∀ x ∈ a, due zs x ≤ D1 + D2) ∧ (∀ x ∈ b, D1 + D2 < due zs x) ∧ h'.Perm b ∧ St w' w.heap.size M Lg V w.heap.size Ph P Kb (due zs) n 0 0 (x1 + x2) pend' h' (a1.map (fun x => (x, 0)) ++ a.map (fun x => (x, 1))) 1 ∧ Fr w.heap.size [91, 93, 95, 30, 39] wC w') := by
        have hlen : (a1.map (fun x => (x, (0 : Int)))).length + b1.length ≤ 1024 := by
          have h1 := HSL.out
          rw [HSPL.out.1] at h1
          simp only [List.length_append, List.length_map] at h1 ⊢
          omega
        have hsb : b1.Pairwise (Ord.lt (due zs)) := by
          have h2 := HSS.out
          rw [HSPL.out.1, List.pairwise_append] at h2
          exact h2.2.1
        have h1 := HX1.out
        have h2 := HX2.out
        have hsc := HSC.out
        rw [← h1] at hsc
        have := advance_any wC w.heap.size M Lg V w.heap.size Ph P Kb (due zs) n D1 D2 pend1 _ b1 _ 1 hsc hsb HSPL.out.2.2.2 (fun x hx => Nat.le_of_lt (HSPL.out.2.2.1 x hx)) (by omega) hlen HDD.out HBC.out.size
        rw [show ((D1 + D2 : Nat) : Int) = x1 + x2 by omega, h2] at this
        exact this
      have hcV : wC.cell? ⟨V, 0, none⟩ = some (.pointer (some ⟨M, 0, none⟩)) := HSC.out.V.cell 0 rfl
      clear SX2 BX2
      go_upto_region 18 with fail
      rw [← hwC]
      clear hwC hph fph
      go_wp2_with fail
      refine HADV.out.mono ?_
      rintro e wD ⟨rfl, a2, b2, pend2, h2, e1, e2, e3, e4, sA, fA⟩
      have HSA : Hid (St wD w.heap.size M Lg V w.heap.size Ph P Kb (due zs) n 0 0 (x1 + x2) pend2 h2 (a1.map (fun x => (x, 0)) ++ a2.map (fun x => (x, 1))) 1) := sA
      have HBA : Hid (Below w.heap.size w wD) := HBC.out.trans (fA.toBelow HBC.out.size)
      have HSP2 : Hid (b1 = a2 ++ b2 ∧ (∀ x ∈ a2, due zs x ≤ D1 + D2) ∧ (∀ x ∈ b2, D1 + D2 < due zs x)) := ⟨e1, e2, e3⟩
      clear sA fA e1 e2 e3 e4 HADV HSC HBC hcV
      go_upto_region 19 with fail
      have cV : wD.cell? ⟨V, 0, none⟩ = some (.pointer (some ⟨M, 0, none⟩)) := HSA.out.V.cell 0 rfl
      have b0 : wD.cell? ⟨w.heap.size, 0, none⟩ = some (.int .u64 0) := HSA.out.Bs.cell 0 rfl
      have b1' : wD.cell? ⟨w.heap.size, 1, none⟩ = some (.int .i64 0) := HSA.out.Bs.cell 1 rfl
      have b2' : wD.cell? ⟨w.heap.size, 2, none⟩ = some (.pointer none) := HSA.out.Bs.cell 2 rfl
      refine wp_region_held_drew (S := (fun w' => w'.cell? ⟨V, 0, none⟩ = some (.pointer (some ⟨M, 0, none⟩)) ∧ w'.cell? ⟨w.heap.size, 0, none⟩ = some (.int .u64 0) ∧ w'.cell? ⟨w.heap.size, 1, none⟩ = some (.int .i64 0) ∧ w'.cell? ⟨w.heap.size, 2, none⟩ = some (.pointer none))) (by kernel_rfl) (by go_keep) (fun hHeld => ?_)
      clear cV b0 b1' b2'
      refine wpAnyH_take (i := 0) (oi := { dst := some 61, op := Go.Op.load 28 (Go.Operand.tmp 8), type := 28, pos := "zz_law_s5106b.go:39", after := #[], guard := none }) (v := .pointer (some ⟨M, 0, none⟩)) rfl (by kernel_rfl) (by kernel_rfl) (by kernel_rfl) (fun _ _ _ h => h) (Or.inl ⟨by rfl, (fun w hSw => by (try dsimp only at hSw); go_simp)⟩) (by assumption) ?_
      try simp only [Act.put, List.setIfInBounds_toArray, List.set_cons_zero, List.set_cons_succ]
      refine wpAnyH_take (i := 2) (oi := { dst := some 63, op := Go.Op.load 27 (Go.Operand.tmp 7), type := 27, pos := "zz_law_s5106b.go:39", after := #[], guard := none }) (v := .agg #[.int .u64 0, .int .i64 0, .pointer none]) rfl (by kernel_rfl) (by kernel_rfl) (by kernel_rfl) (fun _ _ _ h => h) (Or.inl ⟨by rfl, (fun w hSw => by (try dsimp only at hSw); go_simp)⟩) (by assumption) ?_
      try simp only [Act.put, List.setIfInBounds_toArray, List.set_cons_zero, List.set_cons_succ]
      refine wpAnyH_take (i := 4) (oi := { dst := some 65, op := Go.Op.move (Go.Operand.tmp 13), type := 34, pos := "zz_law_s5106b.go:39", after := #[], guard := none }) (v := .int .i64 x1) rfl (by kernel_rfl) (by kernel_rfl) (by kernel_rfl) (fun _ _ _ h => h) (Or.inl ⟨by rfl, (fun w hSw => by (try dsimp only at hSw); go_simp)⟩) (by assumption) ?_
      try simp only [Act.put, List.setIfInBounds_toArray, List.set_cons_zero, List.set_cons_succ]
      refine wpAnyH_take (i := 5) (oi := { dst := some 66, op := Go.Op.move (Go.Operand.tmp 14), type := 34, pos := "zz_law_s5106b.go:39", after := #[], guard := none }) (v := .int .i64 x2) rfl (by kernel_rfl) (by kernel_rfl) (by kernel_rfl) (fun _ _ _ h => h) (Or.inl ⟨by rfl, (fun w hSw => by (try dsimp only at hSw); go_simp)⟩) (by assumption) ?_
      try simp only [Act.put, List.setIfInBounds_toArray, List.set_cons_zero, List.set_cons_succ]
      refine wpAnyH_take (i := 6) (oi := { dst := some 67, op := Go.Op.binOp Go.BinOp.add 34 (Go.Operand.tmp 65) (Go.Operand.tmp 66) 34, type := 34, pos := "zz_law_s5106b.go:39", after := #[{ on := 4, ground := Go.Ground.data }, { on := 5, ground := Go.Ground.data }], guard := none }) (v := .int .i64 (x1 + x2)) rfl (by kernel_rfl) (by kernel_rfl) (by kernel_rfl) (fun _ _ _ h => h) (Or.inl ⟨by rfl, (fun w hSw => by (try dsimp only at hSw); go_simp)⟩) (by assumption) ?_
      try simp only [Act.put, List.setIfInBounds_toArray, List.set_cons_zero, List.set_cons_succ]
      refine wpAnyH_ready (rs := [1]) (by kernel_rfl) (by simp) ?_
      refine AllReadyH.cons (o := { dst := some 62, op := Go.Op.call { callee := Go.Callee.value (Go.Operand.func 9), args := #[Go.Operand.tmp 61], argTypes := #[28] }, type := 27, pos := "zz_law_s5106b.go:39", after := #[{ on := 0, ground := Go.Ground.data }], guard := none }) rfl (fun K hK => ?_) AllReadyH.nil
      go_simp
      have sD := HSA.out.below (Below.refl wD.heap.size wD).drew
      refine (now_any w.heap.size M 0 _ _ _ _ sD.bM sD.Mb).mono ?_
      rintro e X1 ⟨rfl, hM1, hF1⟩
      have SX1 := Hp.Hid.mk' (sD.man hM1 hF1)
      have BX1 : Hid (Below w.heap.size w X1) := HBA.out.drew.trans (hF1.toBelow (by simpa using HBA.out.size))
      clear sD hM1 hF1 hHeld HSA HBA
      go_wp2_with fail
      refine hK.out _ _ (⟨SX1.out.V.cell 0 rfl, SX1.out.Bs.cell 0 rfl, SX1.out.Bs.cell 1 rfl, SX1.out.Bs.cell 2 rfl⟩) (fun hHeld => ?_)
      clear hK K
      try simp only [Act.put, List.setIfInBounds_toArray, List.set_cons_zero, List.set_cons_succ]
      refine wpAnyH_ready (rs := [3]) (by kernel_rfl) (by simp) ?_
      refine AllReadyH.cons (o := { dst := some 64, op := Go.Op.call { callee := Go.Callee.value (Go.Operand.func 10), args := #[Go.Operand.tmp 62, Go.Operand.tmp 63], argTypes := #[27, 27] }, type := 34, pos := "zz_law_s5106b.go:39", after := #[{ on := 1, ground := Go.Ground.data }, { on := 2, ground := Go.Ground.data }, { on := 1, ground := Go.Ground.chain }], guard := none }) rfl (fun K hK => ?_) AllReadyH.nil
      go_simp
      refine (sub0 _ X1 (by omega) (by omega)).mono ?_
      rintro e X2 ⟨rfl, hB2⟩
      have SX2 := Hp.Hid.mk' (SX1.out.below hB2)
      have BX2 : Hid (Below w.heap.size w X2) := BX1.out.trans (hB2.mono BX1.out.size)
      clear hB2 hHeld SX1 BX1
      go_wp2_with fail
      refine hK.out _ _ (⟨SX2.out.V.cell 0 rfl, SX2.out.Bs.cell 0 rfl, SX2.out.Bs.cell 1 rfl, SX2.out.Bs.cell 2 rfl⟩) (fun hHeld => ?_)
      clear hK K
      try simp only [Act.put, List.setIfInBounds_toArray, List.set_cons_zero, List.set_cons_succ]
      refine wpAnyH_take (i := 7) (oi := { dst := some 68, op := Go.Op.binOp Go.BinOp.neq 34 (Go.Operand.tmp 64) (Go.Operand.tmp 67) 34, type := 4, pos := "zz_law_s5106b.go:39", after := #[{ on := 3, ground := Go.Ground.data }, { on := 6, ground := Go.Ground.data }], guard := none }) (v := .bool false) rfl (by kernel_rfl) (by kernel_rfl) (by kernel_rfl) (fun _ _ _ h => h) (Or.inl ⟨by rfl, (fun w hSw => by (try dsimp only at hSw); go_simp)⟩) (by assumption) ?_
      try simp only [Act.put, List.setIfInBounds_toArray, List.set_cons_zero, List.set_cons_succ]
      refine wpAnyH_done (by kernel_rfl) ?_ _
      clear hHeld X1
      have HWANT : Hid (Ord.wantOf (due zs) D1 (D1 + D2) srt = a1.map (fun x => (x, 0)) ++ a2.map (fun x => (x, 1))) := by
        show Ord.wantOf (due zs) D1 (D1 + D2) srt = _
        rw [HSPL.out.1, HSP2.out.1]
        exact Ord.want_eq (by omega) HSPL.out.2.1 (by rw [← HSP2.out.1]; exact HSPL.out.2.2.1) HSP2.out.2.1 HSP2.out.2.2
      have HLOG : Hid (∃ lv, Bk X2 Lg #[lv] 30 ∧ X2.ownsRow w.heap.size 39 3 lv (Ord.wantOf (due zs) D1 (D1 + D2) srt).length (evc (due zs) (Ord.wantOf (due zs) D1 (D1 + D2) srt))) := by rw [HWANT.out]; exact SX2.out.L
      clear HWANT HSPL HSP2 SX2 hKP h1 h2 pend1 pend2
      have hmk := make_ints n hl X2
      obtain ⟨O, hO⟩ : ∃ O, O = X2.heap.size := ⟨_, rfl⟩
      rw [← hO] at hmk
      have HO0 : Hid (Bk (X2.alloc (.cells (toA (List.replicate n 0)) 3)) O (toA (List.replicate n 0)) 3) := by rw [hO]; exact Bk.new _ _ _
      have HBO0 : Hid (Below O X2 (X2.alloc (.cells (toA (List.replicate n 0)) 3))) := by rw [hO]; exact (Below.refl _ _).alloc (Nat.le_refl _) _
      have HOX : Hid (w.heap.size ≤ O) := by rw [hO]; exact BX2.out.size
      have HOX2 : Hid (O = X2.heap.size) := hO
      clear hO
      go_wp2_with fail
      go_loopg [16] n (fun k i wr => ∃ m : Nat, m + k = n ∧ i = .int .i64 (m : Int) ∧ ∃ o : List Nat, Hid (o.length = n) ∧ Hid (∀ j, j < m → Ord.at' o j = j) ∧ Hid (Bk wr O (toA o) 3) ∧ Hid (Below O X2 wr))
      case atStart => exact ⟨0, by omega, rfl, List.replicate n 0, by show _ = _; simp, fun j hj => absurd hj (by omega), HO0, HBO0⟩
      case round =>
        clear HO0 HBO0 hmk
        obtain ⟨m, hm, rfl, o, hol, hoj, hob, hbe⟩ := hrel
        by_cases hmn : m < n
        · have hltI : (m : Int) < (n : Int) := by omega
          have hcm : wr.cell? ⟨O, m, none⟩ = some (.int .i64 ((Ord.at' o m : Nat) : Int)) := hob.out.cell m (toA_get o m (by have := hol.out; omega))
          have hfm := hob.out.free m
          have hwm : IntKind.i64.wrap ((m : Int) + 1) = (m : Int) + 1 := by rw [IntKind.wrap_i64]; omega
          have HO1 : Hid (Bk (wr.setCell ⟨O, m, none⟩ (.int .i64 (m : Int))) O (toA (o.set m m)) 3) := by
            show Bk _ _ _ _
            rw [toA_set]
            exact hob.out.set m _
          have HB1 : Hid (Below O X2 (wr.setCell ⟨O, m, none⟩ (.int .i64 (m : Int)))) := hbe.out.setCell (Nat.le_refl _) _
          have HL1 : Hid ((o.set m m).length = n) := by show _ = _; rw [List.length_set]; exact hol.out
          have HJ1 : Hid (∀ j, j < m + 1 → Ord.at' (o.set m m) j = j) := by
            show ∀ j, j < m + 1 → Ord.at' (o.set m m) j = j
            intro j hj
            rw [Ord.at_set o m m j (by have := hol.out; omega)]
            by_cases e : j = m
            · rw [if_pos e, e]
            · rw [if_neg e]; exact hoj.out j (by omega)
          clear hol hoj hob hbe
          go_wp2_with fail
          go_roundg (gk - 1)
          case rel => exact ⟨m + 1, by omega, rfl, o.set m m, HL1, HJ1, HO1, HB1⟩
          all_goals omega
        · have hmn2 : n = m := by omega
          subst hmn2
          have hor : o = List.range n := range_of o n hol.out hoj.out
          subst hor
          clear hol hoj hm
          go_wp2_with fail
          go_loopg [17] (n - 1) (fun k i wr => ∃ m : Nat, (m ≤ n ∨ m = 1) ∧ 1 ≤ m ∧ k = n - m ∧ i = .int .i64 (m : Int) ∧ ∃ X : List Nat, Hid (X.Pairwise (Ord.lt (due zs)) ∧ X.Perm (List.range (min m n)) ∧ Bk wr O (toA (X ++ List.range' m (n - m))) 3) ∧ Hid (Below O X2 wr))
          case atStart =>
            refine ⟨1, Or.inr rfl, Nat.le_refl _, rfl, rfl, List.range (min 1 n), ⟨?_, List.Perm.refl _, ?_⟩, hbe⟩
            · by_cases e : n = 0
              · subst e; simp
              · rw [Nat.min_eq_left (by omega)]; simp
            · have h1 := hob.out
              have h2 : List.range (min 1 n) ++ List.range' 1 (n - 1) = List.range n := by
                by_cases e : n = 0
                · subst e; rfl
                · rw [Nat.min_eq_left (by omega), List.range_eq_range', List.range_eq_range', List.range'_append_1, show 1 + (n - 1) = n by omega]
              rw [h2]
              exact h1
          case round =>
            clear hob hbe
            obtain ⟨m, hmo, hm1, hgk, rfl, X, hX, hbe⟩ := hrel
            by_cases hmn : m < n
            · have hae : a = some ⟨b, off, none⟩ := HA.out (by omega)
              subst hae
              have hltI : (m : Int) < (n : Int) := by omega
              have hwm : IntKind.i64.wrap ((m : Int) + 1) = (m : Int) + 1 := by rw [IntKind.wrap_i64]; omega
              have hXl : X.length = m := by rw [hX.out.2.1.length_eq, List.length_range]; omega
              have HINI : Hid ([] = ([] : List Nat) ∧ X.length = m ∧ (X ++ []).Pairwise (Ord.lt (due zs)) ∧ (∀ x ∈ X, x < m) ∧ (X ++ m :: []).Perm (List.range (m + 1)) ∧ Bk wr O (toA ((X ++ m :: []) ++ List.range' (m + 1) (n - m - 1))) 3) := by
                refine ⟨rfl, hXl, by simpa using hX.out.1, ?_, ?_, ?_⟩
                · intro x hx
                  have := hX.out.2.1.mem_iff.1 hx
                  rw [List.mem_range] at this
                  omega
                · rw [List.range_succ]
                  have := hX.out.2.1
                  rw [Nat.min_eq_left (by omega)] at this
                  exact List.Perm.append_right [m] this
                · have h1 := hX.out.2.2
                  rw [show n - m = (n - m - 1) + 1 by omega, List.range'_succ] at h1
                  simpa using h1
              clear hXl hX
              go_wp2_with fail
              go_loopg [18] m (fun k j wq => j = .int .i64 (k : Int) ∧ ∃ A C : List Nat, Hid (A.length = k ∧ (A ++ C).Pairwise (Ord.lt (due zs)) ∧ (∀ c ∈ C, Ord.lt (due zs) m c) ∧ (∀ x ∈ A, x < m) ∧ (A ++ m :: C).Perm (List.range (m + 1)) ∧ Bk wq O (toA ((A ++ m :: C) ++ List.range' (m + 1) (n - m - 1))) 3) ∧ Hid (Below O X2 wq))
              case atStart => exact ⟨rfl, X, [], ⟨HINI.out.2.1, HINI.out.2.2.1, by simp, HINI.out.2.2.2.1, HINI.out.2.2.2.2.1, HINI.out.2.2.2.2.2⟩, hbe⟩
              case round =>
                clear HINI hbe X
                obtain ⟨rfl, A, C, hfac, hbe2⟩ := hrel
                rcases List.eq_nil_or_concat A with hA | ⟨A', p, hA⟩
                · subst hA
                  have hgk0 : gk = 0 := hfac.out.1.symm
                  subst hgk0
                  go_upto_region 30 with fail
                  go_quiet (fail)
                  have hbe3 : Hid (Below O X2 (wr.drewN nq)) := hbe2.out.trans ⟨rfl, rfl, rfl, Nat.le_refl _, fun _ _ => rfl⟩
                  go_wp2_with fail
                  go_roundg (n - (m + 1))
                  case rel =>
                    refine ⟨m + 1, Or.inl (by omega), by omega, rfl, rfl, [] ++ m :: C, ⟨?_, ?_, ?_⟩, hbe3⟩
                    · exact Ord.ins_done hfac.out.2.1 hfac.out.2.2.1 hfac.out.2.2.2.1 (.inl rfl)
                    · have h1 := hfac.out.2.2.2.2.1
                      rw [Nat.min_eq_left (by omega)]
                      exact h1
                    · have h1 := hfac.out.2.2.2.2.2
                      rw [Nat.sub_sub] at h1
                      exact h1
                  all_goals omega
                · rw [List.concat_eq_append] at hA
                  subst hA
                  obtain ⟨q, hq⟩ : ∃ q, q = A'.length := ⟨_, rfl⟩
                  have hgkq : gk = q + 1 := by have h1 := hfac.out.1; rw [List.length_append, ← hq] at h1; exact h1.symm
                  subst hgkq
                  have hpm : p < m := hfac.out.2.2.2.1 p (by simp)
                  have hqm : q + 1 ≤ m := by
                    have h1 := hfac.out.2.2.2.2.1.length_eq
                    simp only [List.length_append, List.length_cons, List.length_nil, List.length_range, ← hq] at h1
                    omega
                  have cq : wr.cell? ⟨O, q, none⟩ = some (.int .i64 (p : Int)) := by
                    have h1 := hfac.out.2.2.2.2.2.cell q (v := .int .i64 (p : Int)) (by
                      rw [toA_get _ q (by simp only [List.length_append, List.length_cons, List.length_nil]; omega), List.append_assoc, List.append_assoc, List.cons_append, List.nil_append, hq, at_mid])
                    exact h1
                  have cq1 : wr.cell? ⟨O, q + 1, none⟩ = some (.int .i64 (m : Int)) := by
                    have h1 := hfac.out.2.2.2.2.2.cell (q + 1) (v := .int .i64 (m : Int)) (by
                      rw [toA_get _ (q + 1) (by simp only [List.length_append, List.length_cons, List.length_nil]; omega), List.append_assoc, List.cons_append, show q + 1 = (A' ++ [p]).length by simp [hq], at_mid])
                    exact h1
                  have fq := hfac.out.2.2.2.2.2.free q
                  have fq1 := hfac.out.2.2.2.2.2.free (q + 1)
                  obtain ⟨zp, hzp⟩ : ∃ z, z = zs.getD p 0 := ⟨_, rfl⟩
                  obtain ⟨zm, hzm⟩ : ∃ z, z = zs.getD m 0 := ⟨_, rfl⟩
                  have hBw : Below w.heap.size w wr := BX2.out.trans (hbe2.out.mono HOX.out)
                  have cp : wr.cell? ⟨b, off + p, none⟩ = some (.int .u16 zp) := by rw [hzp]; exact (hBw.cell (HB.out (by omega))).trans (HC.out p (by omega))
                  have cm : wr.cell? ⟨b, off + m, none⟩ = some (.int .u16 zm) := by rw [hzm]; exact (hBw.cell (HB.out (by omega))).trans (HC.out m hmn)
                  have zp0 : 0 ≤ zp ∧ zp < 65536 := by rw [hzp]; exact HZ.out p
                  have zm0 : 0 ≤ zm ∧ zm < 65536 := by rw [hzm]; exact HZ.out m
                  have HDP : Hid (((due zs p : Nat) : Int) = zp % 1000) := by rw [hzp]; exact due_int zs p (HZ.out p).1
                  have HDM : Hid (((due zs m : Nat) : Int) = zm % 1000) := by rw [hzm]; exact due_int zs m (HZ.out m).1
                  have i1 : (q : Int) < (n : Int) := by omega
                  have i2 : (q : Int) + 1 < (n : Int) := by omega
                  have i3 : (p : Int) < (n : Int) := by omega
                  have i4 : (0 : Int) < (q : Int) + 1 := by omega
                  have hwq : IntKind.i64.wrap ((q : Int) + 1 - 1) = (q : Int) := by rw [IntKind.wrap_i64]; omega
                  have hwq0 : IntKind.i64.wrap (q : Int) = (q : Int) := by rw [IntKind.wrap_i64]; omega
                  have HQ : Hid (q = A'.length) := hq
                  have HBW : Hid (Below w.heap.size w wr) := hBw
                  clear hq hzp hzm hBw
                  go_upto_region 30 with fail
                  refine wp_region_held_drew (S := (fun w' => w'.cell? ⟨O, q, none⟩ = some (.int .i64 (p : Int)) ∧ w'.cell? ⟨O, q + 1, none⟩ = some (.int .i64 (m : Int)) ∧ w'.cell? ⟨b, off + p, none⟩ = some (.int .u16 zp) ∧ w'.cell? ⟨b, off + m, none⟩ = some (.int .u16 zm))) (by kernel_rfl) (by go_keep) (fun hHeld => ?_)
                  refine wpAnyH_take (i := 0) (oi := { dst := some 89, op := Go.Op.move (Go.Operand.tmp 18), type := 3, pos := "zz_law_s5106b.go:49", after := #[], guard := none }) (v := .int .i64 ((q : Int) + 1)) rfl (by kernel_rfl) (by kernel_rfl) (by kernel_rfl) (fun _ _ _ h => h) (Or.inl ⟨by rfl, (fun w hSw => by (try dsimp only at hSw); go_simp)⟩) (by assumption) ?_
                  try simp only [Act.put, List.setIfInBounds_toArray, List.set_cons_zero, List.set_cons_succ]
                  refine wpAnyH_take (i := 1) (oi := { dst := some 90, op := Go.Op.binOp Go.BinOp.gtr 3 (Go.Operand.tmp 89) (Go.Operand.const (Go.Value.int Go.IntKind.i64 0)) 3, type := 4, pos := "zz_law_s5106b.go:49", after := #[{ on := 0, ground := Go.Ground.data }], guard := none }) (v := .bool true) rfl (by kernel_rfl) (by kernel_rfl) (by kernel_rfl) (fun _ _ _ h => h) (Or.inl ⟨by rfl, (fun w hSw => by (try dsimp only at hSw); go_simp)⟩) (by assumption) ?_
                  try simp only [Act.put, List.setIfInBounds_toArray, List.set_cons_zero, List.set_cons_succ]
                  refine wpAnyH_take (i := 2) (oi := { dst := some 91, op := Go.Op.move (Go.Operand.tmp 90), type := 4, pos := "zz_law_s5106b.go:49", after := #[{ on := 1, ground := Go.Ground.data }], guard := none }) (v := .bool true) rfl (by kernel_rfl) (by kernel_rfl) (by kernel_rfl) (fun _ _ _ h => h) (Or.inl ⟨by rfl, (fun w hSw => by (try dsimp only at hSw); go_simp)⟩) (by assumption) ?_
                  try simp only [Act.put, List.setIfInBounds_toArray, List.set_cons_zero, List.set_cons_succ]
                  refine wpAnyH_take (i := 3) (oi := { dst := some 92, op := Go.Op.move (Go.Operand.tmp 0), type := 22, pos := "zz_law_s5106b.go:49", after := #[{ on := 2, ground := Go.Ground.guard }], guard := some (2, true) }) (v := .slice (some ⟨b, off, none⟩) n cap) rfl (by kernel_rfl) (by kernel_rfl) (by kernel_rfl) (fun _ _ _ h => h) (Or.inl ⟨by rfl, (fun w hSw => by (try dsimp only at hSw); go_simp)⟩) (by assumption) ?_
                  try simp only [Act.put, List.setIfInBounds_toArray, List.set_cons_zero, List.set_cons_succ]
                  refine wpAnyH_take (i := 4) (oi := { dst := some 93, op := Go.Op.move (Go.Operand.tmp 15), type := 41, pos := "zz_law_s5106b.go:49", after := #[{ on := 2, ground := Go.Ground.guard }], guard := some (2, true) }) (v := .slice (some ⟨O, 0, none⟩) n n) rfl (by kernel_rfl) (by kernel_rfl) (by kernel_rfl) (fun _ _ _ h => h) (Or.inl ⟨by rfl, (fun w hSw => by (try dsimp only at hSw); go_simp)⟩) (by assumption) ?_
                  try simp only [Act.put, List.setIfInBounds_toArray, List.set_cons_zero, List.set_cons_succ]
                  refine wpAnyH_take (i := 5) (oi := { dst := some 94, op := Go.Op.move (Go.Operand.tmp 18), type := 3, pos := "zz_law_s5106b.go:49", after := #[{ on := 2, ground := Go.Ground.guard }], guard := some (2, true) }) (v := .int .i64 ((q : Int) + 1)) rfl (by kernel_rfl) (by kernel_rfl) (by kernel_rfl) (fun _ _ _ h => h) (Or.inl ⟨by rfl, (fun w hSw => by (try dsimp only at hSw); go_simp)⟩) (by assumption) ?_
                  try simp only [Act.put, List.setIfInBounds_toArray, List.set_cons_zero, List.set_cons_succ]
                  refine wpAnyH_take (i := 6) (oi := { dst := some 95, op := Go.Op.binOp Go.BinOp.sub 3 (Go.Operand.tmp 94) (Go.Operand.const (Go.Value.int Go.IntKind.i64 1)) 3, type := 3, pos := "zz_law_s5106b.go:49", after := #[{ on := 5, ground := Go.Ground.data }, { on := 2, ground := Go.Ground.guard }], guard := some (2, true) }) (v := .int .i64 (q : Int)) rfl (by kernel_rfl) (by kernel_rfl) (by kernel_rfl) (fun _ _ _ h => h) (Or.inl ⟨by rfl, (fun w hSw => by (try dsimp only at hSw); go_simp)⟩) (by assumption) ?_
                  try simp only [Act.put, List.setIfInBounds_toArray, List.set_cons_zero, List.set_cons_succ]
                  refine wpAnyH_take (i := 7) (oi := { dst := some 96, op := Go.Op.indexAddr 41 (Go.Operand.tmp 93) (Go.Operand.tmp 95), type := 0, pos := "zz_law_s5106b.go:49", after := #[{ on := 4, ground := Go.Ground.data }, { on := 6, ground := Go.Ground.data }, { on := 2, ground := Go.Ground.guard }], guard := some (2, true) }) (v := .pointer (some ⟨O, q, none⟩)) rfl (by kernel_rfl) (by kernel_rfl) (by kernel_rfl) (fun _ _ _ h => h) (Or.inl ⟨by rfl, (fun w hSw => by (try dsimp only at hSw); go_simp)⟩) (by assumption) ?_
                  try simp only [Act.put, List.setIfInBounds_toArray, List.set_cons_zero, List.set_cons_succ]
                  refine wpAnyH_take (i := 8) (oi := { dst := some 97, op := Go.Op.load 3 (Go.Operand.tmp 96), type := 3, pos := "zz_law_s5106b.go:49", after := #[{ on := 7, ground := Go.Ground.data }, { on := 2, ground := Go.Ground.guard }], guard := some (2, true) }) (v := .int .i64 (p : Int)) rfl (by kernel_rfl) (by kernel_rfl) (by kernel_rfl) (fun _ _ _ h => h) (Or.inl ⟨by rfl, (fun w hSw => by (try dsimp only at hSw); go_simp)⟩) (by assumption) ?_
                  try simp only [Act.put, List.setIfInBounds_toArray, List.set_cons_zero, List.set_cons_succ]
                  refine wpAnyH_take (i := 9) (oi := { dst := some 98, op := Go.Op.indexAddr 22 (Go.Operand.tmp 92) (Go.Operand.tmp 97), type := 0, pos := "zz_law_s5106b.go:49", after := #[{ on := 3, ground := Go.Ground.data }, { on := 8, ground := Go.Ground.data }, { on := 2, ground := Go.Ground.guard }], guard := some (2, true) }) (v := .pointer (some ⟨b, off + p, none⟩)) rfl (by kernel_rfl) (by kernel_rfl) (by kernel_rfl) (fun _ _ _ h => h) (Or.inl ⟨by rfl, (fun w hSw => by (try dsimp only at hSw); go_simp)⟩) (by assumption) ?_
                  try simp only [Act.put, List.setIfInBounds_toArray, List.set_cons_zero, List.set_cons_succ]
                  refine wpAnyH_take (i := 10) (oi := { dst := some 99, op := Go.Op.load 23 (Go.Operand.tmp 98), type := 23, pos := "zz_law_s5106b.go:49", after := #[{ on := 9, ground := Go.Ground.data }, { on := 2, ground := Go.Ground.guard }], guard := some (2, true) }) (v := .int .u16 zp) rfl (by kernel_rfl) (by kernel_rfl) (by kernel_rfl) (fun _ _ _ h => h) (Or.inl ⟨by rfl, (fun w hSw => by (try dsimp only at hSw); go_simp)⟩) (by assumption) ?_
                  try simp only [Act.put, List.setIfInBounds_toArray, List.set_cons_zero, List.set_cons_succ]
                  refine wpAnyH_take (i := 12) (oi := { dst := some 101, op := Go.Op.move (Go.Operand.tmp 0), type := 22, pos := "zz_law_s5106b.go:49", after := #[{ on := 2, ground := Go.Ground.guard }], guard := some (2, true) }) (v := .slice (some ⟨b, off, none⟩) n cap) rfl (by kernel_rfl) (by kernel_rfl) (by kernel_rfl) (fun _ _ _ h => h) (Or.inl ⟨by rfl, (fun w hSw => by (try dsimp only at hSw); go_simp)⟩) (by assumption) ?_
                  try simp only [Act.put, List.setIfInBounds_toArray, List.set_cons_zero, List.set_cons_succ]
                  refine wpAnyH_take (i := 13) (oi := { dst := some 102, op := Go.Op.move (Go.Operand.tmp 15), type := 41, pos := "zz_law_s5106b.go:49", after := #[{ on := 2, ground := Go.Ground.guard }], guard := some (2, true) }) (v := .slice (some ⟨O, 0, none⟩) n n) rfl (by kernel_rfl) (by kernel_rfl) (by kernel_rfl) (fun _ _ _ h => h) (Or.inl ⟨by rfl, (fun w hSw => by (try dsimp only at hSw); go_simp)⟩) (by assumption) ?_
                  try simp only [Act.put, List.setIfInBounds_toArray, List.set_cons_zero, List.set_cons_succ]
                  refine wpAnyH_take (i := 14) (oi := { dst := some 103, op := Go.Op.move (Go.Operand.tmp 18), type := 3, pos := "zz_law_s5106b.go:49", after := #[{ on := 2, ground := Go.Ground.guard }], guard := some (2, true) }) (v := .int .i64 ((q : Int) + 1)) rfl (by kernel_rfl) (by kernel_rfl) (by kernel_rfl) (fun _ _ _ h => h) (Or.inl ⟨by rfl, (fun w hSw => by (try dsimp only at hSw); go_simp)⟩) (by assumption) ?_
                  try simp only [Act.put, List.setIfInBounds_toArray, List.set_cons_zero, List.set_cons_succ]
                  refine wpAnyH_take (i := 15) (oi := { dst := some 104, op := Go.Op.indexAddr 41 (Go.Operand.tmp 102) (Go.Operand.tmp 103), type := 0, pos := "zz_law_s5106b.go:49", after := #[{ on := 13, ground := Go.Ground.data }, { on := 14, ground := Go.Ground.data }, { on := 2, ground := Go.Ground.guard }], guard := some (2, true) }) (v := .pointer (some ⟨O, q + 1, none⟩)) rfl (by kernel_rfl) (by kernel_rfl) (by kernel_rfl) (fun _ _ _ h => h) (Or.inl ⟨by rfl, (fun w hSw => by (try dsimp only at hSw); go_simp; (intro h0; exfalso; omega))⟩) (by assumption) ?_
                  try simp only [Act.put, List.setIfInBounds_toArray, List.set_cons_zero, List.set_cons_succ]
                  refine wpAnyH_take (i := 16) (oi := { dst := some 105, op := Go.Op.load 3 (Go.Operand.tmp 104), type := 3, pos := "zz_law_s5106b.go:49", after := #[{ on := 15, ground := Go.Ground.data }, { on := 2, ground := Go.Ground.guard }], guard := some (2, true) }) (v := .int .i64 (m : Int)) rfl (by kernel_rfl) (by kernel_rfl) (by kernel_rfl) (fun _ _ _ h => h) (Or.inl ⟨by rfl, (fun w hSw => by (try dsimp only at hSw); go_simp)⟩) (by assumption) ?_
                  try simp only [Act.put, List.setIfInBounds_toArray, List.set_cons_zero, List.set_cons_succ]
                  refine wpAnyH_take (i := 17) (oi := { dst := some 106, op := Go.Op.indexAddr 22 (Go.Operand.tmp 101) (Go.Operand.tmp 105), type := 0, pos := "zz_law_s5106b.go:49", after := #[{ on := 12, ground := Go.Ground.data }, { on := 16, ground := Go.Ground.data }, { on := 2, ground := Go.Ground.guard }], guard := some (2, true) }) (v := .pointer (some ⟨b, off + m, none⟩)) rfl (by kernel_rfl) (by kernel_rfl) (by kernel_rfl) (fun _ _ _ h => h) (Or.inl ⟨by rfl, (fun w hSw => by (try dsimp only at hSw); go_simp)⟩) (by assumption) ?_
                  try simp only [Act.put, List.setIfInBounds_toArray, List.set_cons_zero, List.set_cons_succ]
                  refine wpAnyH_take (i := 18) (oi := { dst := some 107, op := Go.Op.load 23 (Go.Operand.tmp 106), type := 23, pos := "zz_law_s5106b.go:49", after := #[{ on := 17, ground := Go.Ground.data }, { on := 2, ground := Go.Ground.guard }], guard := some (2, true) }) (v := .int .u16 zm) rfl (by kernel_rfl) (by kernel_rfl) (by kernel_rfl) (fun _ _ _ h => h) (Or.inl ⟨by rfl, (fun w hSw => by (try dsimp only at hSw); go_simp)⟩) (by assumption) ?_
                  try simp only [Act.put, List.setIfInBounds_toArray, List.set_cons_zero, List.set_cons_succ]
                  refine wpAnyH_ready (rs := [11]) (by kernel_rfl) (by simp) ?_
                  refine AllReadyH.cons (o := { dst := some 100, op := Go.Op.call { callee := Go.Callee.value (Go.Operand.func 7), args := #[Go.Operand.tmp 99], argTypes := #[23] }, type := 34, pos := "zz_law_s5106b.go:49", after := #[{ on := 10, ground := Go.Ground.data }, { on := 2, ground := Go.Ground.chain }, { on := 2, ground := Go.Ground.guard }], guard := some (2, true) }) rfl (fun K hK => ?_) AllReadyH.nil
                  go_simp
                  refine (clamp_any zp _ zp0.1 zp0.2).mono ?_
                  rintro e w' ⟨rfl, hw'⟩
                  rw [hw']
                  clear hw'
                  go_wp2_with fail
                  refine hK.out _ _ (hHeld) (fun hHeld => ?_)
                  clear hK K
                  try simp only [Act.put, List.setIfInBounds_toArray, List.set_cons_zero, List.set_cons_succ]
                  refine wpAnyH_ready (rs := [19]) (by kernel_rfl) (by simp) ?_
                  refine AllReadyH.cons (o := { dst := some 108, op := Go.Op.call { callee := Go.Callee.value (Go.Operand.func 7), args := #[Go.Operand.tmp 107], argTypes := #[23] }, type := 34, pos := "zz_law_s5106b.go:49", after := #[{ on := 18, ground := Go.Ground.data }, { on := 11, ground := Go.Ground.chain }, { on := 2, ground := Go.Ground.guard }], guard := some (2, true) }) rfl (fun K hK => ?_) AllReadyH.nil
                  go_simp
                  refine (clamp_any zm _ zm0.1 zm0.2).mono ?_
                  rintro e w' ⟨rfl, hw'⟩
                  rw [hw']
                  clear hw'
                  go_wp2_with fail
                  refine hK.out _ _ (hHeld) (fun hHeld => ?_)
                  clear hK K
                  try simp only [Act.put, List.setIfInBounds_toArray, List.set_cons_zero, List.set_cons_succ]
                  refine wpAnyH_take (i := 20) (oi := { dst := some 109, op := Go.Op.binOp Go.BinOp.gtr 34 (Go.Operand.tmp 100) (Go.Operand.tmp 108) 34, type := 4, pos := "zz_law_s5106b.go:49", after := #[{ on := 11, ground := Go.Ground.data }, { on := 19, ground := Go.Ground.data }, { on := 2, ground := Go.Ground.guard }], guard := some (2, true) }) (v := .bool (decide (zm % 1000 < zp % 1000))) rfl (by kernel_rfl) (by kernel_rfl) (by kernel_rfl) (fun _ _ _ h => h) (Or.inl ⟨by rfl, (fun w hSw => by (try dsimp only at hSw); go_simp)⟩) (by assumption) ?_
                  try simp only [Act.put, List.setIfInBounds_toArray, List.set_cons_zero, List.set_cons_succ]
                  refine wpAnyH_take (i := 21) (oi := { dst := some 110, op := Go.Op.pick (Go.Operand.tmp 91) (Go.Operand.tmp 109) (Go.Operand.const (Go.Value.bool false)), type := 4, pos := "zz_law_s5106b.go:49", after := #[{ on := 2, ground := Go.Ground.data }, { on := 20, ground := Go.Ground.data }], guard := none }) (v := .bool (decide (zm % 1000 < zp % 1000))) rfl (by kernel_rfl) (by kernel_rfl) (by kernel_rfl) (fun _ _ _ h => h) (Or.inl ⟨by rfl, (fun w hSw => by (try dsimp only at hSw); go_simp)⟩) (by assumption) ?_
                  try simp only [Act.put, List.setIfInBounds_toArray, List.set_cons_zero, List.set_cons_succ]
                  refine wpAnyH_done (by kernel_rfl) ?_ _
                  have hbe3 : Hid (Below O X2 wr.drew) := hbe2.out.drew
                  by_cases hcmp : zm % 1000 < zp % 1000
                  · have hdt : decide (zm % 1000 < zp % 1000) = true := by simp [hcmp]
                    rw [hdt]
                    have HO1 : Hid (Bk ((wr.setCell ⟨O, q, none⟩ (.int .i64 (m : Int))).setCell ⟨O, q + 1, none⟩ (.int .i64 (p : Int))) O (toA ((A' ++ m :: p :: C) ++ List.range' (m + 1) (n - m - 1))) 3) := by
                      have h1 := (hfac.out.2.2.2.2.2.set q (.int .i64 (m : Int))).set (q + 1) (.int .i64 (p : Int))
                      rw [← toA_set, ← toA_set, HQ.out] at h1
                      have h2 := Ord.set_two A' (C ++ List.range' (m + 1) (n - m - 1)) p m
                      simp only [List.append_assoc, List.cons_append, List.nil_append] at h1 h2 ⊢
                      rw [h2] at h1
                      rw [HQ.out]
                      exact h1
                    have HB1 : Hid (Below O X2 ((wr.setCell ⟨O, q, none⟩ (.int .i64 (m : Int))).setCell ⟨O, q + 1, none⟩ (.int .i64 (p : Int)))) := (hbe2.out.setCell (Nat.le_refl _) _).setCell (Nat.le_refl _) _
                    have HLT : Hid (Ord.lt (due zs) m p) := by
                      have h1 := HDP.out
                      have h2 := HDM.out
                      show Ord.lt (due zs) m p
                      unfold Ord.lt
                      omega
                    clear hdt hcmp hHeld
                    go_wp2_with fail
                    go_roundg q
                    case rel =>
                      refine ⟨rfl, A', p :: C, ⟨HQ.out.symm, ?_, ?_, ?_, ?_, HO1.out⟩, HB1.out.drew⟩
                      · have h1 := hfac.out.2.1
                        simpa using h1
                      · intro c hc
                        rcases List.mem_cons.1 hc with e | hc
                        · subst e; exact HLT.out
                        · exact hfac.out.2.2.1 c hc
                      · intro x hx
                        exact hfac.out.2.2.2.1 x (by simp [hx])
                      · refine List.Perm.trans ?_ hfac.out.2.2.2.2.1
                        rw [List.append_assoc]
                        exact List.Perm.append_left A' (List.Perm.swap p m C)
                    all_goals omega
                  · have hdt : decide (zm % 1000 < zp % 1000) = false := by simp [hcmp]
                    rw [hdt]
                    have HLE : Hid (due zs p ≤ due zs m) := by
                      have h1 := HDP.out
                      have h2 := HDM.out
                      show due zs p ≤ due zs m
                      omega
                    clear hdt hcmp hHeld
                    go_wp2_with fail
                    go_roundg (n - (m + 1))
                    case rel =>
                      refine ⟨m + 1, Or.inl (by omega), by omega, rfl, rfl, (A' ++ [p]) ++ m :: C, ⟨?_, ?_, ?_⟩, hbe3⟩
                      · exact Ord.ins_done hfac.out.2.1 hfac.out.2.2.1 hfac.out.2.2.2.1 (.inr ⟨A', p, rfl, HLE.out⟩)
                      · have h1 := hfac.out.2.2.2.2.1
                        rw [Nat.min_eq_left (by omega)]
                        exact h1
                      · have h1 := hfac.out.2.2.2.2.2
                        rw [Nat.sub_sub] at h1
                        exact h1
                    all_goals omega
            · have hXs : X = srt := by
                have h1 := hX.out.2.1
                rw [Nat.min_eq_right (by omega)] at h1
                exact Ord.sorted_unique X srt hX.out.1 HSS.out (h1.trans HSP.out.symm)
              have HORD : Hid (Bk wr O (toA srt) 3) := by
                have h1 := hX.out.2.2
                rw [show n - m = 0 by omega, List.range'_zero, List.append_nil, hXs] at h1
                exact h1
              clear hX hXs
              have hnlt : ¬ ((m : Int) < (n : Int)) := by omega
              go_wp2_with fail
              obtain ⟨L, hL⟩ : ∃ L, L = Ord.wantOf (due zs) D1 (D1 + D2) srt := ⟨_, rfl⟩
              have HLD : Hid (L = Ord.wantOf (due zs) D1 (D1 + D2) srt) := hL
              rw [← hL] at HLOG
              clear hL
              obtain ⟨W5, hW5⟩ : ∃ W5, W5 = wr := ⟨_, rfl⟩
              rw [← hW5] at HORD hbe ⊢
              clear hW5
              have HBW5 : Hid (Below w.heap.size w W5) := BX2.out.trans (hbe.out.mono HOX.out)
              have HLOG5 : Hid (∃ lv, Bk W5 Lg #[lv] 30 ∧ W5.ownsRow w.heap.size 39 3 lv L.length (evc (due zs) L)) := by
                obtain ⟨lv, h1, h2⟩ := HLOG.out
                have hb := hbe.out
                rw [HOX2.out] at hb
                exact ⟨lv, h1.below hb h1.lt, own_fr h2 (Fr.ofBelow (B := 0) (Ts := []) hb) (by simp)⟩
              clear HLOG hbe hmo hm1 hnlt
              obtain ⟨i0, hi, hz0, hz1, hz2⟩ := inf39
              go_loopg [20, 21] n (fun k wv i wq => ∃ m : Nat, m + k = n ∧ i = .int .i64 (m : Int) ∧ Hid (wq.ownsRow W5.heap.size 39 3 wv (Ord.wantOf (due zs) D1 (D1 + D2) (srt.take m)).length (evc (due zs) (Ord.wantOf (due zs) D1 (D1 + D2) (srt.take m)))) ∧ Hid (Below W5.heap.size W5 wq))
              case atStart => exact ⟨0, by omega, rfl, World.ownsRow_nil _ _ _ _, Below.refl _ _⟩
              case round =>
                obtain ⟨m, hm, rfl, hown, hbe⟩ := hrel
                obtain ⟨av, capv, hwv⟩ := own_slice hown.out
                obtain ⟨c, hc⟩ : ∃ c, c = (Ord.wantOf (due zs) D1 (D1 + D2) (srt.take m)).length := ⟨_, rfl⟩
                rw [← hc] at hwv
                subst hwv
                by_cases hmn : m < n
                · have hae : a = some ⟨b, off, none⟩ := HA.out (by omega)
                  subst hae
                  have hltI : (m : Int) < (n : Int) := by omega
                  have hwm : IntKind.i64.wrap ((m : Int) + 1) = (m : Int) + 1 := by rw [IntKind.wrap_i64]; omega
                  have hsl : m < srt.length := by rw [HSL.out]; exact hmn
                  obtain ⟨x, hx⟩ : ∃ x, x = Ord.at' srt m := ⟨_, rfl⟩
                  have hxn : x < n := by
                    rw [hx]
                    have h1 := HSP.out.mem_iff.1 (Ord.at_mem srt m hsl)
                    exact List.mem_range.1 h1
                  have hxI : (x : Int) < (n : Int) := by omega
                  have htk : srt.take (m + 1) = srt.take m ++ [x] := by
                    rw [hx, Ord.at_lt srt m hsl, List.take_succ_eq_append_getElem hsl]
                  obtain ⟨z, hz⟩ : ∃ z, z = zs.getD x 0 := ⟨_, rfl⟩
                  have z0 : 0 ≤ z ∧ z < 65536 := by rw [hz]; exact HZ.out x
                  have HDU : Hid (((due zs x : Nat) : Int) = z % 1000) := by rw [hz]; exact due_int zs x (HZ.out x).1
                  have hcn : c ≤ m := by rw [hc]; exact Nat.le_trans (Ord.want_len _ _ _ _) (by rw [List.length_take]; exact Nat.min_le_left _ _)
                  have HC1 : Hid (c = (Ord.wantOf (due zs) D1 (D1 + D2) (srt.take m)).length) := hc
                  have HTK : Hid (srt.take (m + 1) = srt.take m ++ [x]) := htk
                  have cO : wr.cell? ⟨O, m, none⟩ = some (.int .i64 (x : Int)) := by rw [hx]; exact (hbe.out.cell HORD.out.lt).trans (HORD.out.cell m (toA_get srt m hsl))
                  have cz : wr.cell? ⟨b, off + x, none⟩ = some (.int .u16 z) := by
                    rw [hz]
                    have h1 := HBW5.out.trans (hbe.out.mono HBW5.out.size)
                    exact (h1.cell (HB.out (by omega))).trans (HC.out x hxn)
                  obtain ⟨d, hd⟩ : ∃ d, d = z % 1000 := ⟨_, rfl⟩
                  have HCL : Hid (∀ w, Calls Yba.prog 7 #[.int .u16 z] w fun e w' => e = .returned (.int .i64 d) ∧ w' = w) := by
                    show ∀ w, _
                    intro w
                    rw [hd]
                    exact clamp_any z w z0.1 z0.2
                  have hd0 : 0 ≤ d ∧ d < 1000 := by omega
                  rw [← hd] at HDU
                  have hBs : W5.heap.size ≤ wr.heap.size := hbe.out.size
                  have HO : Hid (wr.ownsRow W5.heap.size 39 3 (.slice av c capv) c (evc (due zs) (Ord.wantOf (due zs) D1 (D1 + D2) (srt.take m)))) := by have := hown.out; rw [← hc] at this; exact this
                  clear hc hx htk hz hd hown
                  go_wp2_with fail
                  refine (HCL.out _).mono ?_
                  rintro e w' ⟨rfl, hw'⟩
                  rw [hw']
                  clear hw'
                  by_cases hd1 : d ≤ x1
                  · have HW1 : Hid (Ord.wantOf (due zs) D1 (D1 + D2) (srt.take (m + 1)) = Ord.wantOf (due zs) D1 (D1 + D2) (srt.take m) ++ [(x, 0)]) := by
                      show _ = _
                      rw [HTK.out, Ord.want_snoc, if_pos (by have h1 := HDU.out; have h2 := HX1.out; omega)]
                    go_wp2_with (at_builtin; refine wpList_append_own _ rfl _ _ 30 rfl W5.heap.size 39 i0 (.agg #[.int .i64 0, .int .i64 0, .int .i64 0]) 3 24 Yba.underlying30 hi hz0 hz1 hz2 rfl (by decide) (.slice av c capv) c (evc (due zs) (Ord.wantOf (due zs) D1 (D1 + D2) (srt.take m))) rfl (HO.out.alloc _) ⟨wr.heap.size, 0, none⟩ 1 1 [.int .i64 (x : Int), .int .i64 d, .int .i64 0] rfl rfl (three_new _ _ _ _ _ _ (by simp)) (by intro u hu; simp at hu; rcases hu with rfl | rfl | rfl <;> rfl) (by unfold maxLen; omega) (by omega) (by simp; omega) ?_)
                    intro v1 w1 ho1 hg1 hn1
                    obtain ⟨g1, x1', hv1⟩ := Go.Joins.ownsRow_form ho1 (by omega)
                    subst hv1
                    have HB1 : Hid (Below W5.heap.size W5 w1) := (Fr.grown2 hg1 (HO.out.alloc _) ((Fr.ofBelow (B := W5.heap.size) (Ts := [39]) hbe.out).alloc _) (Nat.le_refl _) (by decide)).toBelow (Nat.le_refl _)
                    have HO1 : Hid (w1.ownsRow W5.heap.size 39 3 (.slice (some ⟨g1, 0, none⟩) (c + 1) x1') (Ord.wantOf (due zs) D1 (D1 + D2) (srt.take (m + 1))).length (evc (due zs) (Ord.wantOf (due zs) D1 (D1 + D2) (srt.take (m + 1))))) := by
                      show w1.ownsRow _ _ _ _ _ _
                      rw [HW1.out, List.length_append, ← HC1.out, evc, List.flatMap_append]
                      have h1 := HDU.out
                      simp only [List.flatMap_cons, List.flatMap_nil, List.append_nil, h1]
                      exact ho1
                    clear ho1 hg1 hn1 HO
                    go_wp2_with fail
                    go_roundg (gk - 1)
                    case rel => exact ⟨m + 1, by omega, rfl, HO1, HB1⟩
                    all_goals omega
                  · have hd1' : ¬ (d ≤ x1) := hd1
                    by_cases hd2 : d ≤ x1 + x2
                    · have HW1 : Hid (Ord.wantOf (due zs) D1 (D1 + D2) (srt.take (m + 1)) = Ord.wantOf (due zs) D1 (D1 + D2) (srt.take m) ++ [(x, 1)]) := by
                        show _ = _
                        rw [HTK.out, Ord.want_snoc, if_neg (by have h1 := HDU.out; have h2 := HX1.out; omega), if_pos (by have h1 := HDU.out; have h2 := HX1.out; have h3 := HX2.out; omega)]
                      go_wp2_with (at_builtin; refine wpList_append_own _ rfl _ _ 30 rfl W5.heap.size 39 i0 (.agg #[.int .i64 0, .int .i64 0, .int .i64 0]) 3 24 Yba.underlying30 hi hz0 hz1 hz2 rfl (by decide) (.slice av c capv) c (evc (due zs) (Ord.wantOf (due zs) D1 (D1 + D2) (srt.take m))) rfl (HO.out.alloc _) ⟨wr.heap.size, 0, none⟩ 1 1 [.int .i64 (x : Int), .int .i64 d, .int .i64 1] rfl rfl (three_new _ _ _ _ _ _ (by simp)) (by intro u hu; simp at hu; rcases hu with rfl | rfl | rfl <;> rfl) (by unfold maxLen; omega) (by omega) (by simp; omega) ?_)
                      intro v1 w1 ho1 hg1 hn1
                      obtain ⟨g1, x1', hv1⟩ := Go.Joins.ownsRow_form ho1 (by omega)
                      subst hv1
                      have HB1 : Hid (Below W5.heap.size W5 w1) := (Fr.grown2 hg1 (HO.out.alloc _) ((Fr.ofBelow (B := W5.heap.size) (Ts := [39]) hbe.out).alloc _) (Nat.le_refl _) (by decide)).toBelow (Nat.le_refl _)
                      have HO1 : Hid (w1.ownsRow W5.heap.size 39 3 (.slice (some ⟨g1, 0, none⟩) (c + 1) x1') (Ord.wantOf (due zs) D1 (D1 + D2) (srt.take (m + 1))).length (evc (due zs) (Ord.wantOf (due zs) D1 (D1 + D2) (srt.take (m + 1))))) := by
                        show w1.ownsRow _ _ _ _ _ _
                        rw [HW1.out, List.length_append, ← HC1.out, evc, List.flatMap_append]
                        have h1 := HDU.out
                        simp only [List.flatMap_cons, List.flatMap_nil, List.append_nil, h1]
                        exact ho1
                      clear ho1 hg1 hn1 HO
                      go_wp2_with fail
                      go_roundg (gk - 1)
                      case rel => exact ⟨m + 1, by omega, rfl, HO1, HB1⟩
                      all_goals omega
                    · have HW1 : Hid (Ord.wantOf (due zs) D1 (D1 + D2) (srt.take (m + 1)) = Ord.wantOf (due zs) D1 (D1 + D2) (srt.take m)) := by
                        show _ = _
                        rw [HTK.out, Ord.want_snoc, if_neg (by have h1 := HDU.out; have h2 := HX1.out; omega), if_neg (by have h1 := HDU.out; have h2 := HX1.out; have h3 := HX2.out; omega), List.append_nil]
                      go_wp2_with fail
                      go_roundg (gk - 1)
                      case rel =>
                        refine ⟨m + 1, by omega, rfl, ?_, hbe⟩
                        rw [HW1.out, ← HC1.out]
                        exact HO
                      all_goals omega
                · have hmn2 : n = m := by omega
                  subst hmn2
                  have hLn : Ord.wantOf (due zs) D1 (D1 + D2) (srt.take n) = L := by rw [List.take_of_length_le (by rw [HSL.out]; exact Nat.le_refl _), HLD.out]
                  rw [hLn] at hown hc
                  obtain ⟨lv, hlg, hlo⟩ := HLOG5.out
                  obtain ⟨al, capl, hlv⟩ := own_slice hlo
                  rw [← hc] at hlv
                  subst hlv
                  have cL : wr.cell? ⟨Lg, 0, none⟩ = some (.slice al c capl) := (hbe.out.cell hlg.lt).trans (hlg.cell 0 rfl)
                  obtain ⟨W6, hW6⟩ : ∃ W6, W6 = wr := ⟨_, rfl⟩
                  rw [← hW6] at hown hbe cL ⊢
                  clear hW6
                  have HBW6 : Hid (Below w.heap.size w W6) := HBW5.out.trans (hbe.out.mono HBW5.out.size)
                  have HWO : Hid (W6.ownsRow W5.heap.size 39 3 (.slice av c capv) L.length (evc (due zs) L)) := hown.out
                  have HLO : Hid (W6.ownsRow w.heap.size 39 3 (.slice al c capl) L.length (evc (due zs) L)) := own_fr hlo (Fr.ofBelow (B := 0) (Ts := []) hbe.out) (by simp)
                  have HCL : Hid (c = L.length) := hc
                  have hc1 : c ≤ 1024 := by
                    rw [hc, HLD.out]
                    exact Nat.le_trans (Ord.want_len _ _ _ _) (by rw [HSL.out]; exact hl)
                  clear hlg hlo hc hown hbe hLn HORD HLOG5 HBW5 hmn
                  go_wp2_with fail
                  go_loopg [23] c (fun k i wz => ∃ m q : Nat, m + k = c ∧ i = .int .i64 (m : Int) ∧ wz = W6.drewN q)
                  case atStart => exact ⟨0, 0, by omega, rfl, rfl⟩
                  case round =>
                    obtain ⟨m, q, hm, rfl, hwq⟩ := hrel
                    by_cases hmc : m < c
                    · have hL0 : 0 < L.length := by rw [← HCL.out]; omega
                      have hml : m < L.length := by rw [← HCL.out]; exact hmc
                      obtain ⟨g1, cap1, e1, _, k1⟩ := own_cells HWO.out hL0
                      obtain ⟨g2, cap2, e2, _, k2⟩ := own_cells HLO.out hL0
                      obtain ⟨k11, k12, k13⟩ := k1 m hml
                      obtain ⟨k21, k22, k23⟩ := k2 m hml
                      simp only [Value.slice.injEq] at e1 e2
                      obtain ⟨ea, _, eb⟩ := e1
                      obtain ⟨ec, _, ed⟩ := e2
                      subst ea eb ec ed
                      obtain ⟨X, hX⟩ : ∃ X : Int, X = ((L[m].1 : Nat) : Int) := ⟨_, rfl⟩
                      obtain ⟨Y, hY⟩ : ∃ Y : Int, Y = ((due zs L[m].1 : Nat) : Int) := ⟨_, rfl⟩
                      obtain ⟨Z, hZ⟩ : ∃ Z : Int, Z = L[m].2 := ⟨_, rfl⟩
                      rw [← hX] at k11 k21
                      rw [← hY] at k12 k22
                      rw [← hZ] at k13 k23
                      have j11 : wr.cell? ⟨g1, m * 3, none⟩ = some (.int .i64 X) := by rw [hwq]; exact k11
                      have j12 : wr.cell? ⟨g1, m * 3 + 1, none⟩ = some (.int .i64 Y) := by rw [hwq]; exact k12
                      have j13 : wr.cell? ⟨g1, m * 3 + 2, none⟩ = some (.int .i64 Z) := by rw [hwq]; exact k13
                      have j21 : wr.cell? ⟨g2, m * 3, none⟩ = some (.int .i64 X) := by rw [hwq]; exact k21
                      have j22 : wr.cell? ⟨g2, m * 3 + 1, none⟩ = some (.int .i64 Y) := by rw [hwq]; exact k22
                      have j23 : wr.cell? ⟨g2, m * 3 + 2, none⟩ = some (.int .i64 Z) := by rw [hwq]; exact k23
                      have jL : wr.cell? ⟨Lg, 0, none⟩ = some (.slice (some ⟨g2, 0, none⟩) c capl) := by rw [hwq]; exact cL
                      have hev := ev_neq X Y Z
                      have hltI : (m : Int) < (c : Int) := by omega
                      have hwm : IntKind.i64.wrap ((m : Int) + 1) = (m : Int) + 1 := by rw [IntKind.wrap_i64]; omega
                      have HWQ : Hid (wr = W6.drewN q) := hwq
                      clear k1 k2 k11 k12 k13 k21 k22 k23 hX hY hZ hL0 hml hwq cL
                      go_upto_region 49 with fail
                      go_quiet (fail)
                      go_wp2_with fail
                      go_roundg (gk - 1)
                      case rel => exact ⟨m + 1, q + nq, by omega, rfl, by rw [HWQ.out]; exact World.drewN_drewN _ _ _⟩
                      all_goals omega
                    · have hmI : ¬ ((m : Int) < (c : Int)) := by omega
                      have HBZ : Hid (Below w.heap.size w wr) := by rw [hwq]; exact HBW6.out.trans ⟨rfl, rfl, rfl, Nat.le_refl _, fun _ _ => rfl⟩
                      clear hwq
                      go_wp2_with fail
                      go_ret
                      exact ⟨rfl, HBZ.out⟩
end Go.Proofs.Ybulkdask.Hp
