import Derived.Test.YbulkdaskTimeAdd
import Derived.BigRegion
import Derived.RegionTactic
import Derived.Deep.RegionWith
import Derived.Deep.DeepCutAuto
namespace Go.Proofs.Ybulkdask.Tm
open Go.RowKit

/-- 'Below' with the size, to be chained by rote. -/
structure Gr (B : Nat) (a w : World) : Prop where
  bel : Below B a w
  le : B ≤ w.heap.size
theorem Gr.refl (w : World) : Gr w.heap.size w w := ⟨Below.refl _ _, Nat.le_refl _⟩
theorem Gr.alloc {B : Nat} {a w : World} (h : Gr B a w) (o : Obj) : Gr B a (w.alloc o) := ⟨h.bel.alloc h.le o, by have := h.le; simp; omega⟩
theorem Gr.drew {B : Nat} {a w : World} (h : Gr B a w) : Gr B a w.drew := ⟨h.bel.drew, h.le⟩
theorem Gr.step {B : Nat} {a w w' : World} (h : Gr B a w) (k : Below w.heap.size w w') : Gr B a w' := ⟨h.bel.trans (k.mono h.le), Nat.le_trans h.le k.size⟩

set_option maxHeartbeats 800000 in
/-- '(time.Time).Sub', the later less the earlier. -/
theorem sub_any (n1 s1 n2 s2 : Int) (w : World) (h0 : 0 ≤ n1) (h1 : n1 < 1000000000) (k0 : 0 ≤ n2) (k1 : n2 < 1000000000) (b0 : -1000000000 < s2) (b1 : s2 < 1000000000)
    (d0 : 0 ≤ (s1 - s2) * 1000000000 + (n1 - n2)) (d1 : (s1 - s2) * 1000000000 + (n1 - n2) < 17592186044416) :
    Calls Yba.prog 10 #[.agg #[.int .u64 n1, .int .i64 s1, .pointer none], .agg #[.int .u64 n2, .int .i64 s2, .pointer none]] w fun e w' => e = .returned (.int .i64 ((s1 - s2) * 1000000000 + (n1 - n2))) ∧ Below w.heap.size w w' := by
  have hm := noMono2 n1 n2 h0 h1 k0 k1
  have ha := noMono n1 h0 h1
  have hb := noMono n2 k0 k1
  have hc := mask30 n1 h0 h1
  have hd := mask30 n2 k0 k1
  have E1 : (n2 + ((s1 - s2) * 1000000000 + (n1 - n2))) % 1000000000 = n1 := by omega
  have E2 : s2 + (n2 + ((s1 - s2) * 1000000000 + (n1 - n2))) / 1000000000 = s1 := by omega
  have HAD : Hid (∀ w, Calls Yba.prog 12 #[.agg #[.int .u64 n2, .int .i64 s2, .pointer none], .int .i64 ((s1 - s2) * 1000000000 + (n1 - n2))] w fun e w' => e = .returned (.agg #[.int .u64 n1, .int .i64 s1, .pointer none]) ∧ Below w.heap.size w w') := by
    show ∀ w, _
    intro w
    have := add_pos n2 s2 ((s1 - s2) * 1000000000 + (n1 - n2)) w k0 k1 b0 b1 d0 d1
    rw [E1, E2] at this
    exact this
  have HEQ : Hid (∀ w, Calls Yba.prog 17 #[.agg #[.int .u64 n1, .int .i64 s1, .pointer none], .agg #[.int .u64 n1, .int .i64 s1, .pointer none]] w fun e w' => e = .returned (.bool true) ∧ Below w.heap.size w w') := by
    show ∀ w, _
    intro w
    simpa using equal_any n1 s1 n1 s1 w h0 h1 h0 h1
  clear E1 E2
  go_enter Yba.func10, Yba.ntmps10
  go_upto_region 5 with (first | (go_at_call 23; go_in) | (go_at_call 24; go_in))
  go_cut [27] (fun v wc => v = .bool true ∧ Below w.heap.size w wc)
  case first =>
    go_region_with (first | (go_at_call 12; refine (HAD.out _).mono ?_; rintro e w' ⟨rfl, hB⟩; have c1 := hB.cell (p := ⟨w.heap.size, 0, none⟩) (by simp; omega); have c2 := hB.cell (p := ⟨w.heap.size, 1, none⟩) (by simp; omega); have c3 := hB.cell (p := ⟨w.heap.size, 2, none⟩) (by simp; omega); simp at c1 c2 c3) | (go_at_call 17; refine (HEQ.out _).mono ?_; rintro e w' ⟨rfl, hB⟩))
    all_goals (go_wp2_with fail; go_meet)
    all_goals (case rel => exact ⟨rfl, Gr.bel (by repeat (first | exact Gr.refl _ | apply Gr.drew | apply Gr.alloc | refine Gr.step ?_ (by assumption)))⟩)
  case rest =>
    obtain ⟨rfl, hB⟩ := hcut
    go_wp2
    go_ret
    exact ⟨rfl, hB⟩
#print axioms sub_any
end Go.Proofs.Ybulkdask.Tm
