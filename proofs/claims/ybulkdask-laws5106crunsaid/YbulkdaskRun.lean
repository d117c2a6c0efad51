import Derived.Test.YbulkdaskSched
namespace Go.Proofs.Ybulkdask.Clk
open Go.RowKit
set_option linter.unusedSimpArgs false

set_option maxHeartbeats 1600000 in
set_option maxRecDepth 100000 in
/-- '(*Job).run', over Arm's contract. -/
theorem run (B J C S T : Nat) (n s on os nows : Int) (ds fs ss : Value) (ans : Bool) (p t : Nat) (Q : World → Prop) (w : World) (h0 : 0 ≤ n) (h1 : n < 1000000000) (k0 : 0 ≤ on) (k1 : on < 1000000000) (b0 : -1000000000 < os) (b1 : os < 1000000000)
    (ht : (s - os) * 1000000000 + (n - on) = (t : Int)) (ht1 : t < 1099511627776) (hp : 0 < p) (hp1 : p ≤ 1099511627776) (hn0 : 0 ≤ nows) (hn1 : nows < 1000)
    (hBC : B ≤ C) (hBS : B ≤ S) (hBw : B ≤ w.heap.size)
    (hJ : Bk w J (job C S T on os p) 58) (hC : Bk w C #[.int .u64 n, .int .i64 s, .pointer none, .int .i64 nows, ds, fs, ss, .bool ans] 49) (hS : Bk w S #[.slice none 0 0] 50)
    (harm : ∀ w', Fr B [49, 50] w w' → Bk w' C #[.int .u64 n, .int .i64 s, .pointer none, .int .i64 (nows + 1), ds, fs, ss, .bool ans] 49 → (∃ g x, Bk w' S #[.slice (some ⟨g, 0, none⟩) 1 x] 50 ∧ w'.ownsRow B 27 3 (.slice (some ⟨g, 0, none⟩) 1 x) 1 [.int .u64 n, .int .i64 s, .pointer none]) →
      Calls Yba.prog 16 #[.pointer (some ⟨T, 0, none⟩), .int .i64 (((t / p + 1) * p - t : Nat) : Int)] w' fun e w'' => e = .returned (.tuple #[]) ∧ Q w'' ∧ Bk w'' J (job C S T on os p) 58) :
    Calls Yba.prog 15 #[.pointer (some ⟨J, 0, none⟩)] w fun e w'' => e = .returned (.tuple #[]) ∧ Q w'' := by
  have HNOW : Hid (Calls Yba.prog 99 #[.pointer (some ⟨C, 0, none⟩)] w fun e w' => e = .returned (.agg #[.int .u64 n, .int .i64 s, .pointer none]) ∧ Bk w' C #[.int .u64 n, .int .i64 s, .pointer none, .int .i64 (nows + 1), ds, fs, ss, .bool ans] 49 ∧ Fr B [49] w w') := now B C n s nows ds fs ss ans w hn0 hn1 hBC hC
  have HSC : Hid (∀ w2, Bk w2 J (job C S T on os p) 58 → (∀ w', Below w2.heap.size w2 w' → Calls Yba.prog 16 #[.pointer (some ⟨T, 0, none⟩), .int .i64 (((t / p + 1) * p - t : Nat) : Int)] w' fun e w'' => e = .returned (.tuple #[]) ∧ Q w'' ∧ Bk w'' J (job C S T on os p) 58) →
      Calls Yba.prog 29 #[.pointer (some ⟨J, 0, none⟩), .agg #[.int .u64 n, .int .i64 s, .pointer none]] w2 fun e w'' => e = .returned (.tuple #[]) ∧ Q w'') := fun w2 hJ2 ha => sched J C S T n s on os p t Q w2 h0 h1 k0 k1 b0 b1 ht ht1 hp hp1 hJ2 ha
  have HARM : Hid (∀ w', Fr B [49, 50] w w' → Bk w' C #[.int .u64 n, .int .i64 s, .pointer none, .int .i64 (nows + 1), ds, fs, ss, .bool ans] 49 → (∃ g x, Bk w' S #[.slice (some ⟨g, 0, none⟩) 1 x] 50 ∧ w'.ownsRow B 27 3 (.slice (some ⟨g, 0, none⟩) 1 x) 1 [.int .u64 n, .int .i64 s, .pointer none]) →
      Calls Yba.prog 16 #[.pointer (some ⟨T, 0, none⟩), .int .i64 (((t / p + 1) * p - t : Nat) : Int)] w' fun e w'' => e = .returned (.tuple #[]) ∧ Q w'' ∧ Bk w'' J (job C S T on os p) 58) := harm
  have HJ : Hid (Bk w J (job C S T on os p) 58) := hJ
  have HS : Hid (Bk w S #[.slice none 0 0] 50) := hS
  have c0 : w.cell? ⟨J, 0, none⟩ = some (.iface 44 (.pointer (some ⟨C, 0, none⟩))) := hJ.cell 0 rfl
  clear harm hJ hC hS ht ht1 hp hp1 h0 h1 k0 k1 b0 b1 hn0 hn1
  have hm := meth_now ⟨C, 0, none⟩
  go_enter Yba.func15, Yba.ntmps15
  go_wp2_with fail
  refine HNOW.out.mono ?_
  rintro e w1 ⟨rfl, hC1, hF1⟩
  have hJ1 := HJ.out.fr hF1 (by decide)
  have hS1 := HS.out.fr hF1 (by decide)
  have HC1 : Hid (Bk w1 C #[.int .u64 n, .int .i64 s, .pointer none, .int .i64 (nows + 1), ds, fs, ss, .bool ans] 49) := hC1
  have HF1 : Hid (Fr B [49] w w1) := hF1
  have HJ1 : Hid (Bk w1 J (job C S T on os p) 58) := hJ1
  have HS1 : Hid (Bk w1 S #[.slice none 0 0] 50) := hS1
  have d5 : w1.cell? ⟨J, 5, none⟩ = some (.func (.func 13) #[] #[.pointer (some ⟨S, 0, none⟩)]) := hJ1.cell 5 rfl
  have hJlt := hJ1.lt
  clear hC1 hF1 hJ1 hS1 HNOW HJ HS c0
  go_upto_region 1 with fail
  refine wp_region_held_drew (S := (fun w' => w'.cell? ⟨J, 5, none⟩ = some (.func (.func 13) #[] #[.pointer (some ⟨S, 0, none⟩)]) ∧ w'.cell? ⟨w1.heap.size, 0, none⟩ = some (.int .u64 n) ∧ w'.cell? ⟨w1.heap.size, 1, none⟩ = some (.int .i64 s) ∧ w'.cell? ⟨w1.heap.size, 2, none⟩ = some (.pointer none))) (by kernel_rfl) (by go_keep) (fun hHeld => ?_)
  refine wpAnyH_take (i := 0) (v := .pointer (some ⟨J, 0, none⟩)) rfl (by kernel_rfl) (by kernel_rfl) (by kernel_rfl) (fun _ _ _ h => h) (Or.inl ⟨by rfl, (fun w hSw => by (try dsimp only at hSw); go_simp)⟩) (by assumption) ?_
  try simp only [Act.put, List.setIfInBounds_toArray, List.set_cons_zero, List.set_cons_succ]
  refine wpAnyH_take (i := 1) (v := .pointer (some ⟨J, 0, none⟩)) rfl (by kernel_rfl) (by kernel_rfl) (by kernel_rfl) (fun _ _ _ h => h) (Or.inl ⟨by rfl, (fun w hSw => by (try dsimp only at hSw); go_simp)⟩) (by assumption) ?_
  try simp only [Act.put, List.setIfInBounds_toArray, List.set_cons_zero, List.set_cons_succ]
  refine wpAnyH_take (i := 2) (v := .pointer (some ⟨J, 5, none⟩)) rfl (by kernel_rfl) (by kernel_rfl) (by kernel_rfl) (fun _ _ _ h => h) (Or.inl ⟨by rfl, (fun w hSw => by (try dsimp only at hSw); go_simp)⟩) (by assumption) ?_
  try simp only [Act.put, List.setIfInBounds_toArray, List.set_cons_zero, List.set_cons_succ]
  refine wpAnyH_take (i := 3) (v := .func (.func 13) #[] #[.pointer (some ⟨S, 0, none⟩)]) rfl (by kernel_rfl) (by kernel_rfl) (by kernel_rfl) (fun _ _ _ h => h) (Or.inl ⟨by rfl, (fun w hSw => by (try dsimp only at hSw); go_simp)⟩) (by assumption) ?_
  try simp only [Act.put, List.setIfInBounds_toArray, List.set_cons_zero, List.set_cons_succ]
  refine wpAnyH_take (i := 4) (v := .agg #[.int .u64 n, .int .i64 s, .pointer none]) rfl (by kernel_rfl) (by kernel_rfl) (by kernel_rfl) (fun _ _ _ h => h) (Or.inl ⟨by rfl, (fun w hSw => by (try dsimp only at hSw); go_simp)⟩) (by assumption) ?_
  try simp only [Act.put, List.setIfInBounds_toArray, List.set_cons_zero, List.set_cons_succ]
  refine wpAnyH_ready (rs := [5]) (by kernel_rfl) (by simp) ?_
  refine AllReadyH.cons rfl (fun K hK => ?_) AllReadyH.nil
  go_simp
  refine (seen B S n s _ hBS (by have := HF1.out.size; simp; omega) ((HS1.out.alloc _).drew)).mono ?_
  rintro e w2 ⟨rfl, hs2, hF2⟩
  have hJ2 : Bk w2 J (job C S T on os p) 58 := ((HJ1.out.alloc _).drew).fr hF2 (by decide)
  have hN2 : Bk w2 w1.heap.size #[.int .u64 n, .int .i64 s, .pointer none] 27 := ((Bk.new w1 _ _).drew).fr hF2 (by decide)
  have hC2 : Bk w2 C #[.int .u64 n, .int .i64 s, .pointer none, .int .i64 (nows + 1), ds, fs, ss, .bool ans] 49 := ((HC1.out.alloc _).drew).fr hF2 (by decide)
  have hF : Fr B [49, 50] w w2 := (((HF1.out.mono (Nat.le_refl _) (by decide)).alloc _).drew).trans (hF2.mono (Nat.le_refl _) (by decide))
  have q0 : w2.cell? ⟨w1.heap.size, 0, none⟩ = some (.int .u64 n) := hN2.cell 0 rfl
  have q1 : w2.cell? ⟨w1.heap.size, 1, none⟩ = some (.int .i64 s) := hN2.cell 1 rfl
  have q2 : w2.cell? ⟨w1.heap.size, 2, none⟩ = some (.pointer none) := hN2.cell 2 rfl
  have q5 : w2.cell? ⟨J, 5, none⟩ = some (.func (.func 13) #[] #[.pointer (some ⟨S, 0, none⟩)]) := hJ2.cell 5 rfl
  have HFIN : Hid (Calls Yba.prog 29 #[.pointer (some ⟨J, 0, none⟩), .agg #[.int .u64 n, .int .i64 s, .pointer none]] w2 fun e w'' => e = .returned (.tuple #[]) ∧ Q w'') := by
    obtain ⟨g, x, hs3, hs4⟩ := hs2
    exact HSC.out w2 hJ2 (fun w' hb => HARM.out w' (hF.below hb) (hC2.below hb hC2.lt) ⟨g, x, hs3.below hb hs3.lt, own_stays hs4 (fun k hk => hb.block k (hs4.lt k hk).2)⟩)
  clear hs2 hF2 hJ2 hN2 hC2 hF HARM HSC HC1 HF1 HJ1 HS1 d5 hHeld
  go_wp2_with fail
  refine hK.out _ _ ⟨q5, q0, q1, q2⟩ (fun hHeld => ?_)
  clear hK K
  try simp only [Act.put, List.setIfInBounds_toArray, List.set_cons_zero, List.set_cons_succ]
  refine wpAnyH_done (by kernel_rfl) ?_ _
  go_wp2_with fail
  refine HFIN.out.mono ?_
  rintro e w3 ⟨rfl, hQ⟩
  go_wp2_with fail
  refine bodyPost_end (results_none rfl _ _ _) rfl ⟨rfl, hQ⟩
#print axioms run
end Go.Proofs.Ybulkdask.Clk
