import Derived.Test.YbulkdanoFmtWant
import Derived.Test.YbulkdanoFmtFlush
import Derived.Test.YbulkdanoFmtNewA
namespace Go.Proofs.YbulkdanoFmt.Hdr
open Go.RowKit

theorem order_true (w : World) : Calls Ybaf.prog 5 #[.bool true] w fun e w' => e = .returned (.iface 52 (.agg #[])) ∧ w' = w := by
  go_enter Ybaf.func5, Ybaf.ntmps5
  go_wp2
  go_ret
  exact ⟨rfl, rfl⟩
theorem order_false (w : World) : Calls Ybaf.prog 5 #[.bool false] w fun e w' => e = .returned (.iface 53 (.agg #[])) ∧ w' = w := by
  go_enter Ybaf.func5, Ybaf.ntmps5
  go_wp2
  go_ret
  exact ⟨rfl, rfl⟩
theorem neq_true (w : World) : (binOp .neq 25 (.iface 52 (.agg #[])) (.iface 52 (.agg #[]))).run Ybaf.prog w = .ok (.bool false) w := by kernel_rfl
theorem neq_false (w : World) : (binOp .neq 25 (.iface 53 (.agg #[])) (.iface 53 (.agg #[]))).run Ybaf.prog w = .ok (.bool false) w := by kernel_rfl

theorem below_chg {B : Nat} {w a b : World} {S : Nat → Prop} (h : Below B w a) (hc : Chg a b S) (hB : B ≤ a.heap.size) (hS : ∀ k, k < B → ¬ S k) : Below B w b :=
  h.trans ⟨hc.os, hc.tape, hc.output, hc.size, fun k hk => hc.block k (by omega) (hS k hk)⟩

theorem ownsRow_base {w : World} {base base' : Nat} {e : TypeId} {size : Nat} {v : Value} {n : Nat} {xs : List Value} (h : w.ownsRow base e size v n xs) (hb : base' ≤ base) : w.ownsRow base' e size v n xs := by
  refine ⟨h.1, ?_⟩
  rcases h.2 with h2 | ⟨g, cap, cur, hv, hg, r⟩
  · exact .inl h2
  · exact .inr ⟨g, cap, cur, hv, Nat.le_trans hb hg, r⟩

theorem make24 (w : World) : (Instr.makeSlice 30 (.int .i64 0) (.int .i64 24)).run Ybaf.prog w = .ok (.slice (some ⟨w.heap.size, 0, none⟩) 0 24) (w.alloc (.cells (zz 24) 5)) := by
  obtain ⟨i0, hi, hz0, hz1, hz2⟩ := info_parts info5
  have := run_make (P := Ybaf.prog) w 30 5 i0 (.int .u8 0) Ybaf.underlying30 hi hz0 .i64 .i64 0 24 (by omega) (by omega) (by rw [hz2]; omega) (by omega)
  rw [hz1] at this
  exact this

/-- Behind the flush: the sink holds the header; 'want' lies in block q. -/
structure Aft (w : World) (s : Nat) (v : Value) (zs : List Int) (q : Nat) (x : World) : Prop where
  bel : Below w.heap.size w x
  c0 : x.cell? ⟨s, 0, none⟩ = some v
  c1 : x.cell? ⟨s, 1, none⟩ = some (.int .i64 1)
  own : x.ownsRow w.heap.size 5 1 v 24 (u8s zs)
  nv : v.ownBlock ≠ some q
  ns : s ≠ q
  lq : w.heap.size ≤ q
  qx : q < x.heap.size

theorem Aft.grown {w : World} {s : Nat} {v : Value} {zs : List Int} {q : Nat} {x y : World} (h : Aft w s v zs q x) (hg : x.grownBy y (some q)) : Aft w s v zs q y :=
  ⟨h.bel.grown hg h.bel.size (fun k hk => by cases hk; exact h.lq), hg.cell h.c0 (by simpa using h.ns), hg.cell h.c1 (by simpa using h.ns), h.own.kept hg (.inr h.nv), h.nv, h.ns, h.lq, Nat.lt_of_lt_of_le h.qx hg.size⟩

/-- .. and it begins so. -/
theorem aft_start {w x3 : World} {s : Nat} {v : Value} {zs : List Int} (hb : Below w.heap.size w x3) (c0 : x3.cell? ⟨s, 0, none⟩ = some v) (c1 : x3.cell? ⟨s, 1, none⟩ = some (.int .i64 1)) (ho : x3.ownsRow w.heap.size 5 1 v 24 (u8s zs)) (o : Obj) :
    Aft w s v zs x3.heap.size (x3.alloc o) := by
  have hs : s < x3.heap.size := World.block_lt_of_cell? x3 _ c0
  refine ⟨hb.alloc hb.size _, (World.cell?_alloc_past _ _ _ hs).trans c0, (World.cell?_alloc_past _ _ _ hs).trans c1, ho.alloc _, ?_, by omega, hb.size, by simp⟩
  intro e
  have := (ho.lt _ e).2
  omega

/-- The law's two blocks: the header, the sink. -/
structure Beg (w : World) (T : Nat) (x : World) : Prop where
  bel : Below w.heap.size w x
  sz : x.heap.size = w.heap.size + 2
  c0 : x.cell? ⟨w.heap.size + 1, 0, none⟩ = some (.slice none 0 0)
  c1 : x.cell? ⟨w.heap.size + 1, 1, none⟩ = some (.int .i64 0)
  c2 : x.cell? ⟨w.heap.size + 1, 2, none⟩ = some .nilIface
  fr : ∀ i, x.frozen? ⟨w.heap.size + 1, i, none⟩ = false

theorem beg_start (w : World) (T : Nat) (o : Obj) : Beg w T ((w.alloc o).alloc (.cells #[.slice none 0 0, .int .i64 0, .nilIface] 34)) := by
  have e1 : (w.alloc o).heap.size = w.heap.size + 1 := by simp
  refine ⟨((Below.refl _ _).alloc (Nat.le_refl _) _).alloc (by simp) _, by simp, ?_, ?_, ?_, fun i => ?_⟩
  · rw [World.cell?_alloc_at _ _ _ _ e1.symm]; rfl
  · rw [World.cell?_alloc_at _ _ _ _ e1.symm]; rfl
  · rw [World.cell?_alloc_at _ _ _ _ e1.symm]; rfl
  · exact World.frozen?_alloc_at _ _ _ _ e1.symm

theorem u8s_hdr (big : Bool) (mg vmaj vmin zone sig snap link : Int) :
    ((((((([] ++ u8s (B4 big mg)) ++ u8s (B2 big vmaj)) ++ u8s (B2 big vmin)) ++ u8s (B4 big zone)) ++ u8s (B4 big sig)) ++ u8s (B4 big snap)) ++ u8s (B4 big link)) = u8s (hdr big mg vmaj vmin zone sig snap link) := by
  simp [u8s, hdr]
end Go.Proofs.YbulkdanoFmt.Hdr
