import Derived.Test.YbulkdanoFmtRows
import Derived.WalkKit
import Derived.WalkSpells
import Derived.WalkLawsBesides
import Derived.Outline
import Derived.Laws.CopyOwn
namespace Go.Proofs.YbulkdanoFmt.Hdr
open Go.RowKit

/-- Four bytes of a number, in the order asked. -/
def B4 (big : Bool) (v : Int) : List Int := if big then [v / 16777216, v / 65536 % 256, v / 256 % 256, v % 256] else [v % 256, v / 256 % 256, v / 65536 % 256, v / 16777216]
/-- Two bytes of a number, in the order asked. -/
def B2 (big : Bool) (v : Int) : List Int := if big then [v / 256, v % 256] else [v % 256, v / 256]
def u8s (zs : List Int) : List Value := zs.map (Value.int .u8)

theorem splice_get {α : Type} (L : List α) (off : Nat) (cs : List α) (h : off + cs.length ≤ L.length) (i : Nat) : (splice L off cs)[i]? = if i < off then L[i]? else if i < off + cs.length then cs[i - off]? else L[i]? := by
  unfold splice
  have hm : (L.take off).length = off := by simp; omega
  by_cases h1 : i < off
  · rw [if_pos h1, List.getElem?_append_left (by omega), List.getElem?_take_of_lt h1]
  · rw [if_neg h1, List.getElem?_append_right (by omega), hm]
    by_cases h2 : i < off + cs.length
    · rw [if_pos h2, List.getElem?_append_left (by omega)]
    · rw [if_neg h2, List.getElem?_append_right (by omega), List.getElem?_drop]
      congr 1
      omega

theorem splice_set {α : Type} (L : List α) (off : Nat) (cs : List α) (b : α) (h : off + cs.length < L.length) : (splice L off cs).set (off + cs.length) b = splice L off (cs ++ [b]) := by
  apply List.ext_getElem?
  intro i
  rw [List.getElem?_set, length_splice L off cs (by omega), splice_get L off cs (by omega), splice_get L off (cs ++ [b]) (by simp; omega)]
  simp only [List.length_append, List.length_cons, List.length_nil]
  by_cases hi : off + cs.length = i
  · subst hi
    rw [if_pos rfl, if_pos h, if_neg (by omega), if_pos (by omega), List.getElem?_append_right (by omega)]
    rw [show off + cs.length - off - cs.length = 0 by omega]
    rfl
  · rw [if_neg hi]
    by_cases h1 : i < off
    · rw [if_pos h1, if_pos h1]
    · rw [if_neg h1, if_neg h1]
      by_cases h2 : i < off + cs.length
      · rw [if_pos h2, if_pos (by omega), List.getElem?_append_left (by omega)]
      · rw [if_neg h2, if_neg (by omega)]

theorem splice_nil {α : Type} (L : List α) (off : Nat) : splice L off [] = L := by simp [splice]

/-- Row g of w holds the bytes zs. -/
def Row (w : World) (g : Nat) (t : TypeId) (zs : List Int) : Prop := w.heap[g]? = some (.cells (u8s zs).toArray t (0, 0))

theorem Row.cell {w : World} {g : Nat} {t : TypeId} {zs : List Int} (h : Row w g t zs) {i : Nat} (hi : i < zs.length) : w.cell? ⟨g, i, none⟩ = some (.int .u8 zs[i]) := by
  rw [cell_of_row w g i _ t (0, 0) h]
  simp [u8s, List.getElem?_eq_getElem hi]
theorem Row.frozen {w : World} {g : Nat} {t : TypeId} {zs : List Int} (h : Row w g t zs) (i : Nat) : w.frozen? ⟨g, i, none⟩ = false := frozen_of_row w g i _ t h
theorem Row.lt {w : World} {g : Nat} {t : TypeId} {zs : List Int} (h : Row w g t zs) : g < w.heap.size := (Array.getElem?_eq_some_iff.1 h).1

/-- A byte stored. -/
theorem Row.set {w : World} {g : Nat} {t : TypeId} {zs : List Int} (h : Row w g t zs) (i : Nat) (v : Int) : Row (w.setCell ⟨g, i, none⟩ (.int .u8 v)) g t (zs.set i v) := by
  unfold Row
  rw [heap_setCell_same w g i _ t _ h]
  simp [u8s]

theorem Row.grown {w w' : World} {g : Nat} {t : TypeId} {zs : List Int} {row : Option Nat} (h : Row w g t zs) (hg : w.grownBy w' row) (hne : some g ≠ row) : Row w' g t zs :=
  (hg.block g h.lt hne).trans h

theorem grownBy_setCell (w : World) (a : Addr) (v : Value) : w.grownBy (w.setCell a v) (some a.block) :=
  ⟨rfl, rfl, rfl, by simp, fun k _ hk => heap_setCell_other w a k v (fun e => hk (by rw [e]))⟩

theorem grownBy_trans {a b c : World} {row : Option Nat} (h1 : a.grownBy b row) (h2 : b.grownBy c row) : a.grownBy c row :=
  ⟨h2.os.trans h1.os, h2.tape.trans h1.tape, h2.output.trans h1.output, Nat.le_trans h1.size h2.size, fun k hk hn => (h2.block k (Nat.lt_of_lt_of_le hk h1.size) hn).trans (h1.block k hk hn)⟩

/-- What a 'PutUint32' of either order leaves. -/
theorem row4 {w : World} {g : Nat} {t : TypeId} {zs : List Int} (h : Row w g t zs) (off : Nat) (a b c d : Int) (ho : off + 4 ≤ zs.length) (o : Obj) :
    Row ((((((w.setCell ⟨g, off, none⟩ (.int .u8 a)).setCell ⟨g, off + 1, none⟩ (.int .u8 b)).setCell ⟨g, off + 2, none⟩ (.int .u8 c)).setCell ⟨g, off + 3, none⟩ (.int .u8 d)).alloc o)) g t (splice zs off [a, b, c, d]) ∧
    w.grownBy ((((((w.setCell ⟨g, off, none⟩ (.int .u8 a)).setCell ⟨g, off + 1, none⟩ (.int .u8 b)).setCell ⟨g, off + 2, none⟩ (.int .u8 c)).setCell ⟨g, off + 3, none⟩ (.int .u8 d)).alloc o)) (some g) := by
  constructor
  · have e0 : zs.set off a = splice zs off [a] := by
      have := splice_set zs off [] a (by simp; omega)
      simpa [splice_nil] using this
    have e1 : (splice zs off [a]).set (off + 1) b = splice zs off [a, b] := splice_set zs off [a] b (by simp; omega)
    have e2 : (splice zs off [a, b]).set (off + 2) c = splice zs off [a, b, c] := splice_set zs off [a, b] c (by simp; omega)
    have e3 : (splice zs off [a, b, c]).set (off + 3) d = splice zs off [a, b, c, d] := splice_set zs off [a, b, c] d (by simp; omega)
    have r := (((h.set off a).set (off + 1) b).set (off + 2) c).set (off + 3) d
    rw [e0, e1, e2, e3] at r
    exact r.grown (World.grownBy_alloc _ o none) (by simp)
  · exact grownBy_trans (grownBy_trans (grownBy_trans (grownBy_trans (grownBy_setCell w ⟨g, off, none⟩ _) (grownBy_setCell _ ⟨g, off + 1, none⟩ _)) (grownBy_setCell _ ⟨g, off + 2, none⟩ _)) (grownBy_setCell _ ⟨g, off + 3, none⟩ _)) (World.grownBy_alloc _ o _)

theorem row2 {w : World} {g : Nat} {t : TypeId} {zs : List Int} (h : Row w g t zs) (off : Nat) (a b : Int) (ho : off + 2 ≤ zs.length) (o : Obj) :
    Row (((w.setCell ⟨g, off, none⟩ (.int .u8 a)).setCell ⟨g, off + 1, none⟩ (.int .u8 b)).alloc o) g t (splice zs off [a, b]) ∧
    w.grownBy (((w.setCell ⟨g, off, none⟩ (.int .u8 a)).setCell ⟨g, off + 1, none⟩ (.int .u8 b)).alloc o) (some g) := by
  constructor
  · have e0 : zs.set off a = splice zs off [a] := by
      have := splice_set zs off [] a (by simp; omega)
      simpa [splice_nil] using this
    have e1 : (splice zs off [a]).set (off + 1) b = splice zs off [a, b] := splice_set zs off [a] b (by simp; omega)
    have r := (h.set off a).set (off + 1) b
    rw [e0, e1] at r
    exact r.grown (World.grownBy_alloc _ o none) (by simp)
  · exact grownBy_trans (grownBy_trans (grownBy_setCell w ⟨g, off, none⟩ _) (grownBy_setCell _ ⟨g, off + 1, none⟩ _)) (World.grownBy_alloc _ o _)

theorem put32b (g off n c : Nat) (t : TypeId) (v : Int) (zs : List Int) (w : World) (h0 : 0 ≤ v) (h1 : v < 4294967296) (hn : 4 ≤ n) (hr : Row w g t zs) (ho : off + 4 ≤ zs.length) :
    Calls Ybaf.prog 51 #[.agg #[], .slice (some ⟨g, off, none⟩) n c, .int .u32 v] w fun e w' => e = .returned (.tuple #[]) ∧ Row w' g t (splice zs off (B4 true v)) ∧ w.grownBy w' (some g) := by
  have hg := hr.lt
  have c0 := hr.cell (i := off) (by omega)
  have c1 := hr.cell (i := off + 1) (by omega)
  have c2 := hr.cell (i := off + 2) (by omega)
  have c3 := hr.cell (i := off + 3) (by omega)
  have f0 := hr.frozen off
  have f1 := hr.frozen (off + 1)
  have f2 := hr.frozen (off + 2)
  have f3 := hr.frozen (off + 3)
  have HR : Hid (Row w g t zs) := hr
  clear hr
  go_enter Ybaf.func51, Ybaf.ntmps51
  go_wp2
  go_end0
  exact ⟨rfl, row4 HR.out off _ _ _ _ ho _⟩

theorem put32l (g off n c : Nat) (t : TypeId) (v : Int) (zs : List Int) (w : World) (h0 : 0 ≤ v) (h1 : v < 4294967296) (hn : 4 ≤ n) (hr : Row w g t zs) (ho : off + 4 ≤ zs.length) :
    Calls Ybaf.prog 59 #[.agg #[], .slice (some ⟨g, off, none⟩) n c, .int .u32 v] w fun e w' => e = .returned (.tuple #[]) ∧ Row w' g t (splice zs off (B4 false v)) ∧ w.grownBy w' (some g) := by
  have hg := hr.lt
  have c0 := hr.cell (i := off) (by omega)
  have c1 := hr.cell (i := off + 1) (by omega)
  have c2 := hr.cell (i := off + 2) (by omega)
  have c3 := hr.cell (i := off + 3) (by omega)
  have f0 := hr.frozen off
  have f1 := hr.frozen (off + 1)
  have f2 := hr.frozen (off + 2)
  have f3 := hr.frozen (off + 3)
  have HR : Hid (Row w g t zs) := hr
  clear hr
  go_enter Ybaf.func59, Ybaf.ntmps59
  go_wp2
  go_end0
  exact ⟨rfl, row4 HR.out off _ _ _ _ ho _⟩

theorem put16b (g off n c : Nat) (t : TypeId) (v : Int) (zs : List Int) (w : World) (h0 : 0 ≤ v) (h1 : v < 65536) (hn : 2 ≤ n) (hr : Row w g t zs) (ho : off + 2 ≤ zs.length) :
    Calls Ybaf.prog 50 #[.agg #[], .slice (some ⟨g, off, none⟩) n c, .int .u16 v] w fun e w' => e = .returned (.tuple #[]) ∧ Row w' g t (splice zs off (B2 true v)) ∧ w.grownBy w' (some g) := by
  have hg := hr.lt
  have c0 := hr.cell (i := off) (by omega)
  have c1 := hr.cell (i := off + 1) (by omega)
  have f0 := hr.frozen off
  have f1 := hr.frozen (off + 1)
  have HR : Hid (Row w g t zs) := hr
  clear hr
  go_enter Ybaf.func50, Ybaf.ntmps50
  go_wp2
  go_end0
  exact ⟨rfl, row2 HR.out off _ _ ho _⟩

theorem put16l (g off n c : Nat) (t : TypeId) (v : Int) (zs : List Int) (w : World) (h0 : 0 ≤ v) (h1 : v < 65536) (hn : 2 ≤ n) (hr : Row w g t zs) (ho : off + 2 ≤ zs.length) :
    Calls Ybaf.prog 58 #[.agg #[], .slice (some ⟨g, off, none⟩) n c, .int .u16 v] w fun e w' => e = .returned (.tuple #[]) ∧ Row w' g t (splice zs off (B2 false v)) ∧ w.grownBy w' (some g) := by
  have hg := hr.lt
  have c0 := hr.cell (i := off) (by omega)
  have c1 := hr.cell (i := off + 1) (by omega)
  have f0 := hr.frozen off
  have f1 := hr.frozen (off + 1)
  have HR : Hid (Row w g t zs) := hr
  clear hr
  go_enter Ybaf.func58, Ybaf.ntmps58
  go_wp2
  go_end0
  exact ⟨rfl, row2 HR.out off _ _ ho _⟩
end Go.Proofs.YbulkdanoFmt.Hdr
