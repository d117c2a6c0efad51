import Derived.Test.YbulkdanoFmtBuf
namespace Go.Proofs.YbulkdanoFmt.Hdr
open Go.RowKit

/-- The file header's magic number. -/
def magicOf (nano : Bool) : Int := if nano then 2712812621 else 2712847316
theorem magic_bd (nano : Bool) : 0 ≤ magicOf nano ∧ magicOf nano < 4294967296 := by cases nano <;> decide

/-! NewWriter's array after so many puts. -/
def hz0 (_ : Bool) (_ _ _ _ _ _ _ : Int) : List Int := List.replicate 24 0
def hz1 (big : Bool) (mg vmaj vmin zone sig snap link : Int) : List Int := splice (hz0 big mg vmaj vmin zone sig snap link) 0 (B4 big mg)
def hz2 (big : Bool) (mg vmaj vmin zone sig snap link : Int) : List Int := splice (hz1 big mg vmaj vmin zone sig snap link) 4 (B2 big vmaj)
def hz3 (big : Bool) (mg vmaj vmin zone sig snap link : Int) : List Int := splice (hz2 big mg vmaj vmin zone sig snap link) 6 (B2 big vmin)
def hz4 (big : Bool) (mg vmaj vmin zone sig snap link : Int) : List Int := splice (hz3 big mg vmaj vmin zone sig snap link) 8 (B4 big zone)
def hz5 (big : Bool) (mg vmaj vmin zone sig snap link : Int) : List Int := splice (hz4 big mg vmaj vmin zone sig snap link) 12 (B4 big sig)
def hz6 (big : Bool) (mg vmaj vmin zone sig snap link : Int) : List Int := splice (hz5 big mg vmaj vmin zone sig snap link) 16 (B4 big snap)
def hz7 (big : Bool) (mg vmaj vmin zone sig snap link : Int) : List Int := splice (hz6 big mg vmaj vmin zone sig snap link) 20 (B4 big link)

/-- The header's 24 bytes. -/
def hdr (big : Bool) (mg vmaj vmin zone sig snap link : Int) : List Int := B4 big mg ++ (B2 big vmaj ++ (B2 big vmin ++ (B4 big zone ++ (B4 big sig ++ (B4 big snap ++ B4 big link)))))

theorem hz_hdr (big : Bool) (mg vmaj vmin zone sig snap link : Int) : hz7 big mg vmaj vmin zone sig snap link = hdr big mg vmaj vmin zone sig snap link := by
  cases big <;> simp [hz7, hz6, hz5, hz4, hz3, hz2, hz1, hz0, hdr, splice, B4, B2, List.replicate]
theorem hdr_len (big : Bool) (mg vmaj vmin zone sig snap link : Int) : (hdr big mg vmaj vmin zone sig snap link).length = 24 := by
  cases big <;> simp [hdr, B4, B2]
theorem B4_len (big : Bool) (v : Int) : (B4 big v).length = 4 := by cases big <;> rfl
theorem B2_len (big : Bool) (v : Int) : (B2 big v).length = 2 := by cases big <;> rfl
theorem hz0_len (big : Bool) (mg vmaj vmin zone sig snap link : Int) : (hz0 big mg vmaj vmin zone sig snap link).length = 24 := by simp [hz0]
theorem hz1_len (big : Bool) (mg vmaj vmin zone sig snap link : Int) : (hz1 big mg vmaj vmin zone sig snap link).length = 24 := by rw [hz1, length_splice _ _ _ (by rw [hz0_len, B4_len]; omega)]; exact hz0_len _ _ _ _ _ _ _ _
theorem hz2_len (big : Bool) (mg vmaj vmin zone sig snap link : Int) : (hz2 big mg vmaj vmin zone sig snap link).length = 24 := by rw [hz2, length_splice _ _ _ (by rw [hz1_len, B2_len]; omega)]; exact hz1_len _ _ _ _ _ _ _ _
theorem hz3_len (big : Bool) (mg vmaj vmin zone sig snap link : Int) : (hz3 big mg vmaj vmin zone sig snap link).length = 24 := by rw [hz3, length_splice _ _ _ (by rw [hz2_len, B2_len]; omega)]; exact hz2_len _ _ _ _ _ _ _ _
theorem hz4_len (big : Bool) (mg vmaj vmin zone sig snap link : Int) : (hz4 big mg vmaj vmin zone sig snap link).length = 24 := by rw [hz4, length_splice _ _ _ (by rw [hz3_len, B4_len]; omega)]; exact hz3_len _ _ _ _ _ _ _ _
theorem hz5_len (big : Bool) (mg vmaj vmin zone sig snap link : Int) : (hz5 big mg vmaj vmin zone sig snap link).length = 24 := by rw [hz5, length_splice _ _ _ (by rw [hz4_len, B4_len]; omega)]; exact hz4_len _ _ _ _ _ _ _ _
theorem hz6_len (big : Bool) (mg vmaj vmin zone sig snap link : Int) : (hz6 big mg vmaj vmin zone sig snap link).length = 24 := by rw [hz6, length_splice _ _ _ (by rw [hz5_len, B4_len]; omega)]; exact hz5_len _ _ _ _ _ _ _ _
theorem hz7_len (big : Bool) (mg vmaj vmin zone sig snap link : Int) : (hz7 big mg vmaj vmin zone sig snap link).length = 24 := by rw [hz7, length_splice _ _ _ (by rw [hz6_len, B4_len]; omega)]; exact hz6_len _ _ _ _ _ _ _ _

/-- Where NewWriter stands: its array holds zs, its copy of the header is whole; nothing old has turned. -/
structure NwAt (w : World) (vmaj vmin zone sig snap link : Int) (zs : List Int) (wc : World) : Prop where
  row : Row wc (w.heap.size + 1) 56 zs
  f2 : wc.cell? ⟨w.heap.size, 2, none⟩ = some (.int .u16 vmaj)
  f3 : wc.cell? ⟨w.heap.size, 3, none⟩ = some (.int .u16 vmin)
  f4 : wc.cell? ⟨w.heap.size, 4, none⟩ = some (.int .u32 zone)
  f5 : wc.cell? ⟨w.heap.size, 5, none⟩ = some (.int .u32 sig)
  f6 : wc.cell? ⟨w.heap.size, 6, none⟩ = some (.int .u32 snap)
  f7 : wc.cell? ⟨w.heap.size, 7, none⟩ = some (.int .u32 link)
  chg : Chg w wc (fun _ => False)
  sz : w.heap.size + 2 ≤ wc.heap.size

theorem NwAt.put {w : World} {vmaj vmin zone sig snap link : Int} {zs zs' : List Int} {wc w' : World} (h : NwAt w vmaj vmin zone sig snap link zs wc) (hr : Row w' (w.heap.size + 1) 56 zs') (hg : wc.drew.grownBy w' (some (w.heap.size + 1))) : NwAt w vmaj vmin zone sig snap link zs' w' := by
  have hc : Chg wc w' (fun k => some k = some (w.heap.size + 1)) := Chg.of_grown (a := wc) ⟨hg.os, hg.tape, hg.output, hg.size, hg.block⟩
  have hn : ¬ (some w.heap.size = some (w.heap.size + 1)) := by simp
  refine ⟨hr, hc.cell h.f2 hn, hc.cell h.f3 hn, hc.cell h.f4 hn, hc.cell h.f5 hn, hc.cell h.f6 hn, hc.cell h.f7 hn, ?_, Nat.le_trans h.sz hg.size⟩
  refine (h.chg.trans hc).mono fun k hk hh => ?_
  rcases hh with h1 | ⟨_, h1⟩
  · exact h1
  · have : k = w.heap.size + 1 := by simpa using h1
    omega

/-- What NewWriter leaves. -/
structure NewAt (w : World) (T s : Nat) (zs : List Int) (N : Nat) (b g O : Nat) (w' : World) : Prop where
  b0 : w'.cell? ⟨b, 0, none⟩ = some .nilIface
  b1 : w'.cell? ⟨b, 1, none⟩ = some (.slice (some ⟨g, 0, none⟩) N N)
  b2 : w'.cell? ⟨b, 2, none⟩ = some (.int .i64 24)
  b3 : w'.cell? ⟨b, 3, none⟩ = some (.iface 29 (.pointer (some ⟨s, 0, none⟩)))
  bf : w'.frozen? ⟨b, 2, none⟩ = false
  hp : ∀ j (hj : j < zs.length), w'.cell? ⟨g, j, none⟩ = some (.int .u8 zs[j])
  o0 : w'.cell? ⟨O, 0, none⟩ = some (.pointer (some ⟨b, 0, none⟩))
  o1 : w'.cell? ⟨O, 1, none⟩ = some (.iface T (.agg #[]))
  o2 : w'.cell? ⟨O, 2, none⟩ = some (.pointer none)
  chg : Chg w w' (fun _ => False)
  lb : w.heap.size ≤ b
  lg : w.heap.size ≤ g
  lO : w.heap.size ≤ O
  nbO : b ≠ O
  nbg : b ≠ g

/-- The world behind NewWriterSize, bw.Write and the new Writer's box. -/
theorem newAt_of {w : World} {vmaj vmin zone sig snap link : Int} {zs : List Int} {wc : World} (T s N q : Nat) (hN : 24 ≤ N) (hz : zs.length = 24) (h : NwAt w vmaj vmin zone sig snap link zs wc) (cs : Array Value) (h0 : cs[0]? = some (.pointer (some ⟨wc.heap.size + 1, 0, none⟩))) (h1 : cs[1]? = some (.iface T (.agg #[]))) (h2 : cs[2]? = some (.pointer none)) :
    NewAt w T s zs N (wc.heap.size + 1) wc.heap.size (wc.heap.size + 2) ((((((wc.alloc (.cells (zz N) 5)).alloc (.cells #[.nilIface, .slice (some ⟨wc.heap.size, 0, none⟩) N N, .int .i64 0, .iface 29 (.pointer (some ⟨s, 0, none⟩))] 63)).drewN q).setRow wc.heap.size (splice (u8s (List.replicate N 0)) 0 (u8s zs)).toArray).setCell ⟨wc.heap.size + 1, 2, none⟩ (.int .i64 24)).alloc (.cells cs 42)) := by
  generalize hob : Obj.cells #[.nilIface, .slice (some ⟨wc.heap.size, 0, none⟩) N N, .int .i64 0, .iface 29 (.pointer (some ⟨s, 0, none⟩))] 63 = ob
  obtain ⟨A, hA⟩ : ∃ A, A = (wc.alloc (.cells (zz N) 5)).alloc ob := ⟨_, rfl⟩
  have sA : A.heap.size = wc.heap.size + 2 := by rw [hA]; simp
  have e1 : (wc.alloc (.cells (zz N) 5)).heap.size = wc.heap.size + 1 := by simp
  have hbA : A.heap[wc.heap.size + 1]? = some ob := by rw [hA, ← e1]; exact heap_alloc_new _ _
  have hgA : A.heap[wc.heap.size]? = some (.cells (zz N) 5 (0, 0)) := by rw [hA, heap_alloc_old _ _ (by simp)]; exact heap_alloc_new _ _
  have hoA : ∀ k, k < wc.heap.size → A.heap[k]? = wc.heap[k]? := fun k hk => by rw [hA, heap_alloc_old _ _ (by simp; omega)]; exact heap_alloc_old _ _ hk
  rw [← hA]
  obtain ⟨R, hR⟩ : ∃ R, R = (splice (u8s (List.replicate N 0)) 0 (u8s zs)).toArray := ⟨_, rfl⟩
  rw [← hR]
  obtain ⟨C, hC⟩ : ∃ C, C = ((A.drewN q).setRow wc.heap.size R).setCell ⟨wc.heap.size + 1, 2, none⟩ (.int .i64 24) := ⟨_, rfl⟩
  have sC : C.heap.size = wc.heap.size + 2 := by rw [hC]; simp [sA]
  have hgC : C.heap[wc.heap.size]? = some (.cells R 5 (0, 0)) := by
    rw [hC, heap_setCell_other _ _ _ _ (by show wc.heap.size ≠ wc.heap.size + 1; omega)]
    exact setRow_heap (A.drewN q) wc.heap.size (zz N) R 5 (0, 0) hgA
  have hbB : ((A.drewN q).setRow wc.heap.size R).heap[wc.heap.size + 1]? = some ob := by rw [setRow_other _ _ _ _ (by omega)]; exact hbA
  have hbC : C.heap[wc.heap.size + 1]? = some (.cells #[.nilIface, .slice (some ⟨wc.heap.size, 0, none⟩) N N, .int .i64 24, .iface 29 (.pointer (some ⟨s, 0, none⟩))] 63 (0, 0)) := by
    rw [hC]
    have := heap_setCell_same ((A.drewN q).setRow wc.heap.size R) (wc.heap.size + 1) 2 _ 63 (.int .i64 24) (by rw [hbB, ← hob])
    simpa using this
  have hoC : ∀ k, k < wc.heap.size → C.heap[k]? = wc.heap[k]? := fun k hk => by
    rw [hC, heap_setCell_other _ _ _ _ (by show k ≠ wc.heap.size + 1; omega), setRow_other _ _ _ _ (by omega)]
    exact hoA k hk
  rw [← hC]
  have al : ∀ k o, k < wc.heap.size + 2 → (C.alloc (.cells cs 42)).cell? ⟨k, o, none⟩ = C.cell? ⟨k, o, none⟩ := fun k o hk => World.cell?_alloc_past _ _ _ (by omega)
  have an : ∀ o, (C.alloc (.cells cs 42)).cell? ⟨wc.heap.size + 2, o, none⟩ = cs[o]? := fun o => World.cell?_alloc_at _ _ _ _ sC.symm
  have hw := h.chg.size
  refine ⟨?_, ?_, ?_, ?_, ?_, ?_, ?_, ?_, ?_, ?_, by omega, by omega, by omega, by omega, by omega⟩
  · rw [al _ _ (by omega), cell_of_row _ _ _ _ _ _ hbC]; rfl
  · rw [al _ _ (by omega), cell_of_row _ _ _ _ _ _ hbC]; rfl
  · rw [al _ _ (by omega), cell_of_row _ _ _ _ _ _ hbC]; rfl
  · rw [al _ _ (by omega), cell_of_row _ _ _ _ _ _ hbC]; rfl
  · rw [World.frozen?_alloc_past _ _ _ (by omega)]; exact frozen_of_row _ _ _ _ _ hbC
  · intro j hj
    rw [al _ _ (by omega), cell_of_row _ _ _ _ _ _ hgC, hR, List.getElem?_toArray, splice_get _ _ _ (by simp [u8s]; omega), if_neg (by omega), if_pos (by simp [u8s]; omega)]
    simp [u8s, List.getElem?_eq_getElem hj]
  · rw [an]; exact h0
  · rw [an]; exact h1
  · rw [an]; exact h2
  · refine ⟨?_, ?_, ?_, ?_, fun k hk _ => ?_⟩
    · rw [hC, hA]; exact h.chg.os
    · rw [hC, hA]; exact h.chg.tape
    · rw [hC, hA]; exact h.chg.output
    · simp [sC]; omega
    · rw [heap_alloc_old _ _ (by omega), hoC k (by omega)]
      exact h.chg.block k hk (fun x => x)

/-- Where NewWriter begins. -/
theorem nwAt_start (w : World) (T : Nat) (nano : Bool) (vmaj vmin zone sig snap link : Int) {big : Bool} {mg : Int} :
    NwAt w vmaj vmin zone sig snap link (hz0 big mg vmaj vmin zone sig snap link) ((w.alloc (.cells #[.iface T (.agg #[]), .bool nano, .int .u16 vmaj, .int .u16 vmin, .int .u32 zone, .int .u32 sig, .int .u32 snap, .int .u32 link] 28)).alloc (.cells #[.int .u8 0, .int .u8 0, .int .u8 0, .int .u8 0, .int .u8 0, .int .u8 0, .int .u8 0, .int .u8 0, .int .u8 0, .int .u8 0, .int .u8 0, .int .u8 0, .int .u8 0, .int .u8 0, .int .u8 0, .int .u8 0, .int .u8 0, .int .u8 0, .int .u8 0, .int .u8 0, .int .u8 0, .int .u8 0, .int .u8 0, .int .u8 0] 56)) := by
  generalize hob : Obj.cells #[.iface T (.agg #[]), .bool nano, .int .u16 vmaj, .int .u16 vmin, .int .u32 zone, .int .u32 sig, .int .u32 snap, .int .u32 link] 28 = ob
  have e1 : (w.alloc ob).heap.size = w.heap.size + 1 := by simp
  have hb : ∀ o2 : Obj, ((w.alloc ob).alloc o2).heap[w.heap.size]? = some ob := fun o2 => by rw [heap_alloc_old _ _ (by simp)]; exact heap_alloc_new _ _
  have hc : ∀ (o2 : Obj) (i : Nat), ((w.alloc ob).alloc o2).cell? ⟨w.heap.size, i, none⟩ = (#[.iface T (.agg #[]), .bool nano, .int .u16 vmaj, .int .u16 vmin, .int .u32 zone, .int .u32 sig, .int .u32 snap, .int .u32 link] : Array Value)[i]? := fun o2 i => cell_of_row _ _ _ _ 28 (0, 0) (by rw [hb, ← hob])
  refine ⟨?_, by rw [hc]; rfl, by rw [hc]; rfl, by rw [hc]; rfl, by rw [hc]; rfl, by rw [hc]; rfl, by rw [hc]; rfl, ?_, by simp⟩
  · unfold Row
    rw [← e1, heap_alloc_new]
    rfl
  · exact ⟨rfl, rfl, rfl, by simp; omega, fun k hk _ => by rw [heap_alloc_old _ _ (by simp; omega)]; exact heap_alloc_old _ _ hk⟩

/-- bw.Write(b[:]) right behind NewWriterSize. -/
theorem bwrite_new (x : World) (s N g3 : Nat) (t : TypeId) (zs : List Int) (hN0 : 0 < N) (hN : N ≤ 65536) (hN24 : 24 ≤ N) (hz : zs.length = 24) (hr : Row x g3 t zs) :
    Calls Ybaf.prog 14 #[.pointer (some ⟨x.heap.size + 1, 0, none⟩), .slice (some ⟨g3, 0, none⟩) 24 24] ((x.alloc (.cells (zz N) 5)).alloc (.cells #[.nilIface, .slice (some ⟨x.heap.size, 0, none⟩) N N, .int .i64 0, .iface 29 (.pointer (some ⟨s, 0, none⟩))] 63)) fun e w' => e = .returned (.tuple #[.int .i64 24, .nilIface]) ∧
      ∃ q, w' = ((((x.alloc (.cells (zz N) 5)).alloc (.cells #[.nilIface, .slice (some ⟨x.heap.size, 0, none⟩) N N, .int .i64 0, .iface 29 (.pointer (some ⟨s, 0, none⟩))] 63)).drewN q).setRow x.heap.size (splice (u8s (List.replicate N 0)) 0 (u8s zs)).toArray).setCell ⟨x.heap.size + 1, 2, none⟩ (.int .i64 24) := by
  have hlt := hr.lt
  have e1 : (x.alloc (.cells (zz N) 5)).heap.size = x.heap.size + 1 := by simp
  have hrow : ∀ o, Row ((x.alloc (.cells (zz N) 5)).alloc o) g3 t zs := fun o => (hr.grown (World.grownBy_alloc _ _ none) (by simp)).grown (World.grownBy_alloc _ _ none) (by simp)
  have hbb : ∀ cs : Array Value, ((x.alloc (.cells (zz N) 5)).alloc (.cells cs 63)).heap[x.heap.size + 1]? = some (.cells cs 63 (0, 0)) := fun cs => by rw [← e1]; exact heap_alloc_new _ _
  have hgg : ∀ o, ((x.alloc (.cells (zz N) 5)).alloc o).heap[x.heap.size]? = some (.cells (zz N) 5 (0, 0)) := fun o => by rw [heap_alloc_old _ _ (by simp)]; exact heap_alloc_new _ _
  refine bwrite (x.heap.size + 1) x.heap.size g3 t N hN0 hN zs 24 hz hN24 _ ?_ ?_ ?_ ?_ (by omega) (hgg _) (hrow _)
  · rw [cell_of_row _ _ _ _ _ _ (hbb _)]; rfl
  · rw [cell_of_row _ _ _ _ _ _ (hbb _)]; rfl
  · rw [cell_of_row _ _ _ _ _ _ (hbb _)]; rfl
  · exact frozen_of_row _ _ _ _ _ (hbb _)

end Go.Proofs.YbulkdanoFmt.Hdr
