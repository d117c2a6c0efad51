import Derived.Test.YbulkdaskRun
namespace Go.Proofs.Ybulkdask.Clk
open Go.RowKit Go.Proofs.Ybulkdask.Tm

theorem Bk.newAt (w : World) (b : Nat) (vs : Array Value) (t : TypeId) (hb : b = w.heap.size) : Bk (w.alloc (.cells vs t)) b vs t := by
  subst hb
  exact Bk.new w vs t

/-- The world in which the law has made its clock, its job and its timer. -/
abbrev W5 (w2 : World) (n s on os : Int) (p : Nat) (ans st : Bool) : World :=
  ((((w2.alloc (.cells #[.int .u64 n, .int .i64 s, .pointer none] 27)).alloc (.cells #[.int .u64 n, .int .i64 s, .pointer none, .int .i64 0, .slice none 0 0, .slice none 0 0, .slice none 0 0, .bool ans] 49)).alloc (.cells #[.slice none 0 0] 50)).alloc
    (.cells #[.iface 44 (.pointer (some ⟨w2.heap.size + 1, 0, none⟩)), .int .u64 on, .int .i64 os, .pointer none, .int .i64 p, .func (.func 13) #[] #[.pointer (some ⟨w2.heap.size + 1 + 1, 0, none⟩)], .pointer (some ⟨w2.heap.size + 1 + 1 + 1 + 1, 0, none⟩)] 58)).alloc
    (.cells #[.iface 44 (.pointer (some ⟨w2.heap.size + 1, 0, none⟩)), .func (.func 15) #[.pointer (some ⟨w2.heap.size + 1 + 1 + 1, 0, none⟩)] #[], .int .i32 0, .int .u32 0, .nilIface, .int .u64 0, .int .u32 0, .bool st] 74)

/-- Before 'run': the parts. -/
structure Bef (w : World) (B N C S J T : Nat) (n s on os : Int) (p : Nat) (ans st : Bool) (ds fs ss tv : Value) (x : Int) (k : Nat) (dl fl sl : List Value) : Prop where
  clk : Bk w C #[.int .u64 n, .int .i64 s, .pointer none, .int .i64 0, ds, fs, ss, .bool ans] 49
  r1 : w.ownsRow B 34 1 ds k dl
  r2 : w.ownsRow B 1 1 fs k fl
  r3 : w.ownsRow B 78 1 ss k sl
  tim : Bk w T (tmr C J 0 tv x st) 74
  jb : Bk w J (job C S T on os p) 58
  sn : Bk w S #[.slice none 0 0] 50
  nw : Bk w N #[.int .u64 n, .int .i64 s, .pointer none] 27
  bN : N < B
  bC : B ≤ C
  bS : B ≤ S
  bT : B ≤ T
  bw : B ≤ w.heap.size

theorem bef5 (w2 : World) (n s on os : Int) (p : Nat) (ans st : Bool) : Bef (W5 w2 n s on os p ans st) (w2.heap.size + 1) w2.heap.size (w2.heap.size + 1) (w2.heap.size + 1 + 1) (w2.heap.size + 1 + 1 + 1) (w2.heap.size + 1 + 1 + 1 + 1) n s on os p ans st (.slice none 0 0) (.slice none 0 0) (.slice none 0 0) .nilIface 0 0 [] [] [] where
  clk := (((Bk.newAt _ _ _ _ (by simp)).alloc _).alloc _).alloc _
  r1 := World.ownsRow_nil _ _ _ _
  r2 := World.ownsRow_nil _ _ _ _
  r3 := World.ownsRow_nil _ _ _ _
  tim := Bk.newAt _ _ _ _ (by simp)
  jb := (Bk.newAt _ _ _ _ (by simp)).alloc _
  sn := ((Bk.newAt _ _ _ _ (by simp)).alloc _).alloc _
  nw := ((((Bk.newAt _ _ _ _ rfl).alloc _).alloc _).alloc _).alloc _
  bN := by omega
  bC := by omega
  bS := by omega
  bT := by omega
  bw := by simp

/-- After 'run'. -/
structure Aft (W w : World) (B N C S J T : Nat) (n s on os : Int) (p : Nat) (ans st : Bool) (ds fs ss tv : Value) (x : Int) (k : Nat) (dl fl sl : List Value) : Prop where
  clk : Bk w C #[.int .u64 n, .int .i64 s, .pointer none, .int .i64 1, ds, fs, ss, .bool ans] 49
  r1 : w.ownsRow B 34 1 ds k dl
  r2 : w.ownsRow B 1 1 fs k fl
  r3 : w.ownsRow B 78 1 ss k sl
  tim : Bk w T (tmr C J 0 tv x st) 74
  jb : Bk w J (job C S T on os p) 58
  sn : ∃ g y, Bk w S #[.slice (some ⟨g, 0, none⟩) 1 y] 50 ∧ w.ownsRow B 27 3 (.slice (some ⟨g, 0, none⟩) 1 y) 1 [.int .u64 n, .int .i64 s, .pointer none]
  nw : Bk w N #[.int .u64 n, .int .i64 s, .pointer none] 27
  low : Below B W w

theorem own_below {w w' : World} {base size nn : Nat} {e : TypeId} {v : Value} {xs : List Value} (h : w.ownsRow base e size v nn xs) (hb : Below w.heap.size w w') : w'.ownsRow base e size v nn xs := own_stays h (fun k hk => hb.block k (h.lt k hk).2)

theorem Aft.below {W w w' : World} {B N C S J T : Nat} {n s on os : Int} {p : Nat} {ans st : Bool} {ds fs ss tv : Value} {x : Int} {k : Nat} {dl fl sl : List Value} (h : Aft W w B N C S J T n s on os p ans st ds fs ss tv x k dl fl sl) (hb : Below w.heap.size w w') (hB : B ≤ w.heap.size) : Aft W w' B N C S J T n s on os p ans st ds fs ss tv x k dl fl sl where
  clk := h.clk.below hb h.clk.lt
  r1 := own_below h.r1 hb
  r2 := own_below h.r2 hb
  r3 := own_below h.r3 hb
  tim := h.tim.below hb h.tim.lt
  jb := h.jb.below hb h.jb.lt
  sn := by
    obtain ⟨g, y, h1, h2⟩ := h.sn
    exact ⟨g, y, h1.below hb h1.lt, own_below h2 hb⟩
  nw := h.nw.below hb h.nw.lt
  low := h.low.trans (hb.mono hB)

variable {w : World} {B N C S J T : Nat} {n s on os : Int} {p t : Nat} {ans st : Bool} {ds fs ss tv : Value} {x : Int} {k : Nat} {dl fl sl : List Value}

/-- The numbers' bounds. -/
def Nums (n s on os : Int) (p t : Nat) : Prop := 0 ≤ n ∧ n < 1000000000 ∧ 0 ≤ on ∧ on < 1000000000 ∧ -1000000000 < os ∧ os < 1000000000 ∧ (s - os) * 1000000000 + (n - on) = (t : Int) ∧ t < 1099511627776 ∧ 0 < p ∧ p ≤ 1099511627776

/-- 'run', the timer stopped. -/
theorem run_stopped (hN : Nums n s on os p t) (h : Bef w B N C S J T n s on os p ans true ds fs ss tv x k dl fl sl) :
    Calls Yba.prog 15 #[.pointer (some ⟨J, 0, none⟩)] w fun e w' => e = .returned (.tuple #[]) ∧ Aft w w' B N C S J T n s on os p ans true ds fs ss tv x k dl fl sl ∧ Fr B [49, 50, 74] w w' := by
  obtain ⟨a1, a2, a3, a4, a5, a6, a7, a8, a9, a10⟩ := hN
  refine run B J C S T n s on os 0 ds fs ss ans p t (fun w' => Aft w w' B N C S J T n s on os p ans true ds fs ss tv x k dl fl sl ∧ Fr B [49, 50, 74] w w') w a1 a2 a3 a4 a5 a6 a7 a8 a9 a10 (by omega) (by omega) h.bC h.bS h.bw h.jb h.clk h.sn ?_
  intro w' hF hC hs
  refine (arm_stopped B T C J tv x _ w' h.bT (h.tim.fr hF (by decide))).mono ?_
  rintro e w'' ⟨rfl, hT, hF2⟩
  have hF3 : Fr B [49, 50, 74] w w'' := (hF.mono (Nat.le_refl _) (by decide)).trans (hF2.mono (Nat.le_refl _) (by decide))
  obtain ⟨g, y, s1, s2⟩ := hs
  have hJ := h.jb.fr hF3 (by decide)
  exact ⟨rfl, ⟨⟨hC.fr hF2 (by decide), own_fr h.r1 hF3 (by decide), own_fr h.r2 hF3 (by decide), own_fr h.r3 hF3 (by decide), hT, hJ, ⟨g, y, s1.fr hF2 (by decide), own_fr s2 hF2 (by decide)⟩, h.nw.frB hF3 h.bN, hF3.toBelow h.bw⟩, hF3⟩, hJ⟩

/-- 'run', nothing scheduled. -/
theorem run_nil (hN : Nums n s on os p t) (hk : k ≤ 1) (h : Bef w B N C S J T n s on os p ans false ds fs ss .nilIface 0 k dl fl sl) :
    Calls Yba.prog 15 #[.pointer (some ⟨J, 0, none⟩)] w fun e w' => e = .returned (.tuple #[]) ∧ ∃ D ds' fs' ss', Aft w w' B N C S J T n s on os p ans false ds' fs' ss' (.iface 78 (.pointer (some ⟨D, 0, none⟩))) 4294967296 (k + 1) (dl ++ [.int .i64 (((t / p + 1) * p - t : Nat) : Int)]) (fl ++ [runFn T]) (sl ++ [.pointer (some ⟨D, 0, none⟩)]) := by
  obtain ⟨a1, a2, a3, a4, a5, a6, a7, a8, a9, a10⟩ := hN
  refine run B J C S T n s on os 0 ds fs ss ans p t (fun w' => ∃ D ds' fs' ss', Aft w w' B N C S J T n s on os p ans false ds' fs' ss' (.iface 78 (.pointer (some ⟨D, 0, none⟩))) 4294967296 (k + 1) (dl ++ [.int .i64 (((t / p + 1) * p - t : Nat) : Int)]) (fl ++ [runFn T]) (sl ++ [.pointer (some ⟨D, 0, none⟩)])) w a1 a2 a3 a4 a5 a6 a7 a8 a9 a10 (by omega) (by omega) h.bC h.bS h.bw h.jb h.clk h.sn ?_
  intro w' hF hC hs
  refine (arm_nil B T C J n s 1 ds fs ss ans dl fl sl k _ w' hk h.bT h.bC (Nat.le_trans h.bw hF.size) (h.tim.fr hF (by decide)) hC (own_fr h.r1 hF (by decide)) (own_fr h.r2 hF (by decide)) (own_fr h.r3 hF (by decide))).mono ?_
  rintro e w'' ⟨rfl, D, hD, _, hT, hclk, hF2⟩
  have hF3 : Fr B [49, 50, 74, 34, 1, 78] w w'' := (hF.mono (Nat.le_refl _) (by decide)).trans (hF2.mono (Nat.le_refl _) (by decide))
  obtain ⟨g, y, s1, s2⟩ := hs
  obtain ⟨ds', fs', ss', k1, k2, k3, k4⟩ := hclk.ex
  have hJ := h.jb.fr hF3 (by decide)
  exact ⟨rfl, ⟨D, ds', fs', ss', ⟨k1, k2, k3, k4, hT, hJ, ⟨g, y, s1.fr hF2 (by decide), own_fr s2 hF2 (by decide)⟩, h.nw.frB hF3 h.bN, hF3.toBelow h.bw⟩⟩, hJ⟩

/-- 'run', a call scheduled before. -/
theorem run_again {D0 : Nat} (hN : Nums n s on os p t) (hk : k ≤ 1) (h : Bef w B N C S J T n s on os p ans false ds fs ss (.iface 78 (.pointer (some ⟨D0, 0, none⟩))) 4294967296 k dl fl sl) (hBD : B ≤ D0) (hD0 : Bk w D0 #[.bool ans, .int .i64 0] 77) :
    Calls Yba.prog 15 #[.pointer (some ⟨J, 0, none⟩)] w fun e w' => e = .returned (.tuple #[]) ∧ ∃ D ds' fs' ss' x', Aft w w' B N C S J T n s on os p ans false ds' fs' ss' (.iface 78 (.pointer (some ⟨D, 0, none⟩))) x' (k + 1) (dl ++ [.int .i64 (((t / p + 1) * p - t : Nat) : Int)]) (fl ++ [runFn T]) (sl ++ [.pointer (some ⟨D, 0, none⟩)]) ∧ Bk w' D0 #[.bool ans, .int .i64 1] 77 := by
  obtain ⟨a1, a2, a3, a4, a5, a6, a7, a8, a9, a10⟩ := hN
  refine run B J C S T n s on os 0 ds fs ss ans p t (fun w' => ∃ D ds' fs' ss' x', Aft w w' B N C S J T n s on os p ans false ds' fs' ss' (.iface 78 (.pointer (some ⟨D, 0, none⟩))) x' (k + 1) (dl ++ [.int .i64 (((t / p + 1) * p - t : Nat) : Int)]) (fl ++ [runFn T]) (sl ++ [.pointer (some ⟨D, 0, none⟩)]) ∧ Bk w' D0 #[.bool ans, .int .i64 1] 77) w a1 a2 a3 a4 a5 a6 a7 a8 a9 a10 (by omega) (by omega) h.bC h.bS h.bw h.jb h.clk h.sn ?_
  intro w' hF hC hs
  refine (arm_again B T C J D0 n s 1 ds fs ss ans dl fl sl k _ w' hk h.bT h.bC hBD (Nat.le_trans h.bw hF.size) (h.tim.fr hF (by decide)) (hD0.fr hF (by decide)) hC (own_fr h.r1 hF (by decide)) (own_fr h.r2 hF (by decide)) (own_fr h.r3 hF (by decide))).mono ?_
  rintro e w'' ⟨rfl, D, x', hD0', hT, hclk, hF2⟩
  have hF3 : Fr B [49, 50, 74, 77, 34, 1, 78] w w'' := (hF.mono (Nat.le_refl _) (by decide)).trans (hF2.mono (Nat.le_refl _) (by decide))
  obtain ⟨g, y, s1, s2⟩ := hs
  obtain ⟨ds', fs', ss', k1, k2, k3, k4⟩ := hclk.ex
  have hJ := h.jb.fr hF3 (by decide)
  exact ⟨rfl, ⟨D, ds', fs', ss', x', ⟨k1, k2, k3, k4, hT, hJ, ⟨g, y, s1.fr hF2 (by decide), own_fr s2 hF2 (by decide)⟩, h.nw.frB hF3 h.bN, hF3.toBelow h.bw⟩, hD0'⟩, hJ⟩
#print axioms run_again
end Go.Proofs.Ybulkdask.Clk
