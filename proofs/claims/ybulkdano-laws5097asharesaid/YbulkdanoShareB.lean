import Derived.Test.YbulkdanoShareA
import Derived.Maps.OwnSet
import Derived.Laws.IdiomStrings
namespace Go.Proofs.Ybulkdano.Share
open Go.RowKit Go.Maps Go.WideMaps

theorem law : Keyed Yba.prog 9 := string_keyed Yba.underlying9
theorem zero27 (w : World) : (zeroValue 27).run Yba.prog w = .ok (.pointer none) w := by kernel_rfl

/-- An element of the map reads as itself. -/
def pe (v : Value) : Option (DataW Value × List MemPlace) := some (.held v, [])
/-- What the table holds under s after n rounds. -/
def mv (ss : List ByteArray) (qs : Nat → Nat) (n : Nat) (s : ByteArray) : Value :=
  if 0 ≤ lastTo ss s n then .pointer (some ⟨qs (lastTo ss s n).toNat, 0, none⟩) else .pointer none

theorem key_of (s : ByteArray) (h : s.size ≤ maxLen) : keyOf Yba.prog 9 (.string s) = some (.string s.data.toList) := keyOf_string_mk Yba.underlying9 h
theorem isKey (s : ByteArray) : WideAt.IsKeyLit (.string s.data.toList) := trivial
theorem key_ne {s t : ByteArray} (h : s ≠ t) : Lit.string s.data.toList ≠ Lit.string t.data.toList := fun e => h (WideShapes.bytes_inj (by injection e))

theorem look {w : World} {b n : Nat} {D : DataW Value} (h : w.ownsMap Yba.prog 9 pe b n D) {s : ByteArray} (hs : s.size ≤ maxLen) {v : Value}
    (hv : D.atKey (.string s.data.toList) (.held (.pointer none)) = .held v) : (Instr.lookup 25 (.map (some b)) (.string s) false).run Yba.prog w = .ok v w := by
  obtain ⟨v', ps, hrun, hR⟩ := h.lookup law Yba.underlying25 (zero27 w) (zd := .held (.pointer none)) (zp := []) rfl (key_of s hs)
  rw [hv] at hR
  simp [pe] at hR
  rw [hrun, hR.1]

theorem look_ok {w : World} {b n : Nat} {D : DataW Value} (h : w.ownsMap Yba.prog 9 pe b n D) {s : ByteArray} (hs : s.size ≤ maxLen) {v : Value}
    (hv : D.atKey (.string s.data.toList) (.held (.pointer none)) = .held v) :
    (Instr.lookup 25 (.map (some b)) (.string s) true).run Yba.prog w = .ok (.tuple #[v, .bool (Maps.has D (.string s.data.toList))]) w := by
  obtain ⟨v', ps, hrun, hR⟩ := h.look_ok law Yba.underlying25 (zero27 w) (zd := .held (.pointer none)) (zp := []) rfl (key_of s hs)
  rw [hv] at hR
  simp [pe] at hR
  rw [hrun, hR.1]

/-- What the map is, after n rounds. -/
structure Dat (ss : List ByteArray) (qs : Nat → Nat) (n : Nat) (D : DataW Value) : Prop where
  at_ : ∀ s : ByteArray, D.atKey (.string s.data.toList) (.held (.pointer none)) = .held (mv ss qs n s)
  has : ∀ s : ByteArray, Maps.has D (.string s.data.toList) = decide (0 ≤ lastTo ss s n)

theorem dat_start (ss : List ByteArray) (qs : Nat → Nat) : Dat ss qs 0 (.map []) := ⟨fun _ => rfl, fun _ => rfl⟩

theorem dat_step {ss : List ByteArray} {qs : Nat → Nat} {n : Nat} {D : DataW Value} (h : Dat ss qs n D) (hD : IsMap D) (q : Nat) :
    Dat ss (fun i => if i = n then q else qs i) (n + 1) (D.put (.string (ss.getD n ByteArray.empty).data.toList) (.held (.pointer (some ⟨q, 0, none⟩)))) := by
  constructor
  · intro s
    by_cases hs : ss.getD n ByteArray.empty = s
    · subst hs
      rw [Maps.atKey_put_same hD (isKey _)]
      simp [mv, lastTo]
    · rw [Maps.atKey_put_other (key_ne (fun e => hs e.symm)), h.at_]
      have hl : lastTo ss s (n + 1) = lastTo ss s n := by simp only [lastTo]; rw [if_neg hs]
      have hb := lastTo_bd ss s n
      unfold mv
      rw [hl]
      split
      · dsimp only; rw [if_neg (by omega)]
      · rfl
  · intro s
    by_cases hs : ss.getD n ByteArray.empty = s
    · subst hs
      rw [Maps.has_put_same hD (isKey _)]
      simp [lastTo]
    · rw [Maps.has_put_other (key_ne (fun e => hs e.symm)), h.has]
      have hl : lastTo ss s (n + 1) = lastTo ss s n := by simp only [lastTo]; rw [if_neg hs]
      rw [hl]

theorem grownBy_setCell (w : World) (a : Addr) (v : Value) : w.grownBy (w.setCell a v) (some a.block) :=
  ⟨rfl, rfl, rfl, by simp, fun k _ hk => heap_setCell_other w a k v (fun e => hk (by rw [e]))⟩

/-- The table in memory, after n rounds. B: the first new block (the map); B + 1: the slice of pointers; qs: the counts' blocks. -/
structure Tab (W0 : World) (len n N E : Nat) (qs : Nat → Nat) (D : DataW Value) (w : World) : Prop where
  bel : Below W0.heap.size W0 w
  own : w.ownsMap Yba.prog 9 pe W0.heap.size N D
  sl : ∀ i, i < n → w.cell? ⟨W0.heap.size + 1, i, none⟩ = some (.pointer (some ⟨qs i, 0, none⟩))
  slz : ∀ i, i < len → (∃ v, w.cell? ⟨W0.heap.size + 1, i, none⟩ = some v) ∧ w.frozen? ⟨W0.heap.size + 1, i, none⟩ = false
  ct : ∀ i, i < n → w.cell? ⟨qs i, 0, none⟩ = some (.int .u64 ((i : Int) + 1))
  lo : ∀ i, i < n → W0.heap.size + 1 < qs i ∧ qs i < E
  hE : W0.heap.size + 2 ≤ E ∧ E ≤ w.heap.size

/-- Whatever turns blocks from E on alone leaves the table. -/
theorem Tab.grown {W0 : World} {len n N E : Nat} {qs : Nat → Nat} {D : DataW Value} {w w' : World} {row : Option Nat} (h : Tab W0 len n N E qs D w) (hg : w.grownBy w' row) (hr : ∀ k, row = some k → E ≤ k) : Tab W0 len n N E qs D w' := by
  have hE := h.hE
  have hs := h.bel.size
  have keep : ∀ k, k < E → w'.heap[k]? = w.heap[k]? := fun k hk => hg.block k (by omega) (fun e => by have := hr k e.symm; omega)
  refine ⟨h.bel.grown hg hs (fun k hk => by have := hr k hk; omega), h.own.kept hg (fun e => by have := hr _ e.symm; omega), ?_, ?_, ?_, h.lo, hE.1, Nat.le_trans hE.2 hg.size⟩
  · intro i hi
    rw [World.cell?_of_block (w := w) (keep _ (by show W0.heap.size + 1 < E; omega))]
    exact h.sl i hi
  · intro i hi
    rw [World.cell?_of_block (w := w) (keep _ (by show W0.heap.size + 1 < E; omega)), World.frozen?_of_block (w := w) (keep _ (by show W0.heap.size + 1 < E; omega))]
    exact h.slz i hi
  · intro i hi
    rw [World.cell?_of_block (w := w) (keep _ (h.lo i hi).2)]
    exact h.ct i hi

theorem Tab.mono {W0 : World} {len n N E : Nat} {qs : Nat → Nat} {D : DataW Value} {w : World} (h : Tab W0 len n N E qs D w) {E' : Nat} (h1 : E ≤ E') (h2 : E' ≤ w.heap.size) : Tab W0 len n N E' qs D w :=
  ⟨h.bel, h.own, h.sl, h.slz, h.ct, fun i hi => ⟨(h.lo i hi).1, Nat.lt_of_lt_of_le (h.lo i hi).2 h1⟩, Nat.le_trans h.hE.1 h1, h2⟩

/-- The map is written: the rest stands. -/
theorem Tab.put {W0 : World} {len n N E : Nat} {qs : Nat → Nat} {D D' : DataW Value} {w w' : World} {N' : Nat} (h : Tab W0 len n N E qs D w) (hg : w.grownBy w' (some W0.heap.size)) (ho : w'.ownsMap Yba.prog 9 pe W0.heap.size N' D') : Tab W0 len n N' E qs D' w' := by
  have hE := h.hE
  have hs := h.bel.size
  have keep : ∀ k, k < w.heap.size → k ≠ W0.heap.size → w'.heap[k]? = w.heap[k]? := fun k hk hn => hg.block k hk (fun e => hn (by simpa using e))
  refine ⟨h.bel.grown hg hs (fun k hk => by cases hk; exact Nat.le_refl _), ho, ?_, ?_, ?_, h.lo, hE.1, Nat.le_trans hE.2 hg.size⟩
  · intro i hi
    rw [World.cell?_of_block (w := w) (keep _ (by show W0.heap.size + 1 < _; omega) (by show W0.heap.size + 1 ≠ _; omega))]
    exact h.sl i hi
  · intro i hi
    rw [World.cell?_of_block (w := w) (keep _ (by show W0.heap.size + 1 < _; omega) (by show W0.heap.size + 1 ≠ _; omega)), World.frozen?_of_block (w := w) (keep _ (by show W0.heap.size + 1 < _; omega) (by show W0.heap.size + 1 ≠ _; omega))]
    exact h.slz i hi
  · intro i hi
    have := h.lo i hi
    rw [World.cell?_of_block (w := w) (keep _ (by show qs i < _; omega) (by show qs i ≠ _; omega))]
    exact h.ct i hi

theorem addr_ne {b o b' o' : Nat} (h : b ≠ b') : (⟨b, o, none⟩ : Addr) ≠ ⟨b', o', none⟩ := fun e => h (by injection e)

/-- A round: a new count in a new block; its pointer in the slice; the map written. -/
theorem tab_step {W0 : World} {len n N E : Nat} {qs : Nat → Nat} {D D' : DataW Value} {wr w1 : World} (h : Tab W0 len n N E qs D wr) (hn : n < len)
    (hg0 : ((wr.setCell ⟨W0.heap.size + 1, n, none⟩ (.pointer (some ⟨wr.heap.size, 0, none⟩))).alloc (.cells #[.int .u64 ((n : Int) + 1)] 33)).grownBy w1 (some W0.heap.size))
    (ho : w1.ownsMap Yba.prog 9 pe W0.heap.size (N + 1) D') :
    Tab W0 len (n + 1) (N + 1) w1.heap.size (fun i => if i = n then wr.heap.size else qs i) D' w1 := by
  have hE := h.hE
  have hg : ((wr.alloc (.cells #[.int .u64 ((n : Int) + 1)] 33)).setCell ⟨W0.heap.size + 1, n, none⟩ (.pointer (some ⟨wr.heap.size, 0, none⟩))).grownBy w1 (some W0.heap.size) := by
    rw [World.setCell_alloc_past _ _ _ _ (by omega)]
    exact hg0
  have hs := h.bel.size
  have hz : wr.heap.size + 1 ≤ w1.heap.size := by have := hg.size; simpa using this
  have T1 := h.grown (World.grownBy_alloc wr (.cells #[.int .u64 ((n : Int) + 1)] 33) none) (fun k hk => by cases hk)
  obtain ⟨v0, hv0⟩ := (T1.slz n hn).1
  have T2 : Tab W0 len n N E qs D ((wr.alloc (.cells #[.int .u64 ((n : Int) + 1)] 33)).setCell ⟨W0.heap.size + 1, n, none⟩ (.pointer (some ⟨wr.heap.size, 0, none⟩))) := by
    refine ⟨T1.bel.setCell (by show W0.heap.size ≤ W0.heap.size + 1; omega) _, T1.own.setCell (by show W0.heap.size ≠ W0.heap.size + 1; omega) _, ?_, ?_, ?_, T1.lo, by simpa using T1.hE⟩
    · intro i hi
      rw [World.cell?_setCell_other _ _ _ _ (fun e => by injection e with _ e2 _; omega)]
      exact T1.sl i hi
    · intro i hi
      rw [World.frozen?_setCell]
      refine ⟨?_, (T1.slz i hi).2⟩
      by_cases hin : i = n
      · subst hin
        exact ⟨_, World.cell?_setCell_same _ _ _ hv0⟩
      · rw [World.cell?_setCell_other _ _ _ _ (fun e => by injection e with _ e2 _; omega)]
        exact (T1.slz i hi).1
    · intro i hi
      have := T1.lo i hi
      rw [World.cell?_setCell_other _ _ _ _ (addr_ne (by omega))]
      exact T1.ct i hi
  have cs : ((wr.alloc (.cells #[.int .u64 ((n : Int) + 1)] 33)).setCell ⟨W0.heap.size + 1, n, none⟩ (.pointer (some ⟨wr.heap.size, 0, none⟩))).cell? ⟨W0.heap.size + 1, n, none⟩ = some (.pointer (some ⟨wr.heap.size, 0, none⟩)) := World.cell?_setCell_same _ _ _ hv0
  have cq : ((wr.alloc (.cells #[.int .u64 ((n : Int) + 1)] 33)).setCell ⟨W0.heap.size + 1, n, none⟩ (.pointer (some ⟨wr.heap.size, 0, none⟩))).cell? ⟨wr.heap.size, 0, none⟩ = some (.int .u64 ((n : Int) + 1)) := by
    rw [World.cell?_setCell_other _ _ _ _ (addr_ne (by omega))]
    simp
  have T3 := T2.put hg ho
  refine ⟨T3.bel, T3.own, ?_, T3.slz, ?_, ?_, by omega, Nat.le_refl _⟩
  · intro i hi
    by_cases hin : i = n
    · subst hin
      simp only [if_true]
      exact hg.cell cs (by simp)
    · rw [if_neg hin]
      exact T3.sl i (by omega)
  · intro i hi
    by_cases hin : i = n
    · subst hin
      simp only [if_true]
      exact hg.cell cq (by simp; omega)
    · rw [if_neg hin]
      exact T3.ct i (by omega)
  · intro i hi
    by_cases hin : i = n
    · subst hin
      simp only [if_true]
      omega
    · rw [if_neg hin]
      have := T3.lo i (by omega)
      omega

theorem tab_start (W0 : World) (len : Nat) (qs : Nat → Nat) (cs : Array Value) (hc : cs.size = len) :
    Tab W0 len 0 0 (W0.heap.size + 2) qs (.map []) ((W0.alloc (.map #[] 0)).alloc (.cells cs 27)) := by
  refine ⟨((Below.refl _ _).alloc (Nat.le_refl _) _).alloc (by simp) _, (World.ownsMap_made _ _ _ _).alloc _, fun i hi => by omega, ?_, fun i hi => by omega, fun i hi => by omega, Nat.le_refl _, by simp⟩
  intro i hi
  have e1 : (W0.alloc (.map #[] 0)).heap.size = W0.heap.size + 1 := by simp
  constructor
  · refine ⟨cs[i], ?_⟩
    rw [World.cell?_alloc_at _ _ _ _ e1.symm]
    simp
  · exact World.frozen?_alloc_at _ _ _ _ e1.symm

/-- The key slice reads as the bytes of ks. -/
def KeyIs (E : Nat) (kv : Value) (ks : ByteArray) (w : World) : Prop :=
  (kv = .slice none 0 0 ∧ ks = ByteArray.empty) ∨
  ∃ g cap, kv = .slice (some ⟨g, 0, none⟩) ks.size cap ∧ E ≤ g ∧ g < w.heap.size ∧ ∀ j (hj : j < ks.data.toList.length), w.cell? ⟨g, j, none⟩ = some (.int .u8 ((ks.data.toList[j]).toNat : Int))

theorem keyIs_conv {E : Nat} {kv : Value} {ks : ByteArray} {w : World} (h : KeyIs E kv ks w) : (convert 23 9 kv).run Yba.prog w = .ok (.string ks) w := by
  rcases h with ⟨rfl, rfl⟩ | ⟨g, cap, rfl, _, _, hc⟩
  · rw [run_convert_bytes_string w 23 9 5 none 0 0 Yba.underlying23 Yba.underlying5 Yba.underlying9]
    simp [Conv.bytesToString]
  · have := run_convert_bytes_back (P := Yba.prog) w 23 9 5 ⟨g, 0, none⟩ cap ks.data.toList Yba.underlying23 Yba.underlying5 Yba.underlying9 (fun j hj => by
      have hadd : (⟨g, 0, none⟩ : Addr).add j = ⟨g, j, none⟩ := by unfold Addr.add; split <;> simp_all
      rw [hadd]; exact hc j hj)
    simpa using this

theorem KeyIs.grown {E : Nat} {kv : Value} {ks : ByteArray} {w w' : World} {row : Option Nat} (h : KeyIs E kv ks w) (hg : w.grownBy w' row) (hr : ∀ k, row = some k → k < E ∨ w.heap.size ≤ k) : KeyIs E kv ks w' := by
  rcases h with h | ⟨g, cap, rfl, hE, hlt, hc⟩
  · exact .inl h
  · refine .inr ⟨g, cap, rfl, hE, Nat.lt_of_lt_of_le hlt hg.size, fun j hj => ?_⟩
    exact hg.cell (hc j hj) (fun e => by have := hr g e.symm; omega)

theorem KeyIs.off {E : Nat} {kv : Value} {ks : ByteArray} {w : World} (h : KeyIs E kv ks w) {a : Addr} (v : Value) (ha : a.block < E ∨ w.heap.size ≤ a.block) : KeyIs E kv ks (w.setCell a v) :=
  h.grown (grownBy_setCell w a v) (fun k hk => by cases hk; exact ha)

theorem keyIs_bytes {E gc : Nat} {s : ByteArray} {wr : World} (hE : E ≤ wr.heap.size) (fr : Nat × Nat) : KeyIs E (.slice (some ⟨wr.heap.size, 0, none⟩) s.size gc) s (wr.alloc (.cells (bytesRow s gc) 5 fr)).drew := by
  refine .inr ⟨wr.heap.size, gc, rfl, hE, by simp, fun j hj => ?_⟩
  rw [World.cell?_drew, World.cell?_alloc_mark, bytesRow_at s gc j (by simpa using hj)]
  simp

def u8s (xs : List UInt8) : List Value := (xs.map (fun b => (b.toNat : Int))).map (Value.int .u8)

theorem keyIs_own {E : Nat} {v : Value} {xs : List UInt8} {w : World} (h : w.ownsRow E 5 1 v xs.length (u8s xs)) : KeyIs E v ⟨xs.toArray⟩ w := by
  rcases h.2 with ⟨rfl, hn⟩ | ⟨g, cap, cur, rfl, hb, hg, _⟩
  · obtain rfl : xs = [] := List.eq_nil_of_length_eq_zero hn
    exact .inl ⟨rfl, rfl⟩
  · refine .inr ⟨g, cap, rfl, hb, (Array.getElem?_eq_some_iff.1 hg).1, fun j hj => ?_⟩
    have := h.cells (g := g) rfl j (.int .u8 (xs[j]'(by simpa using hj)).toNat) (by simp [u8s, List.getElem?_eq_getElem (show j < xs.length by simpa using hj)])
    have hadd : (⟨g, 0, none⟩ : Addr).add j = ⟨g, j, none⟩ := by unfold Addr.add; split <;> simp_all
    rw [hadd] at this
    simpa using this

/-- What stands behind 'share'. -/
structure Mid (W0 : World) (ss : List ByteArray) (n N E : Nat) (qs : Nat → Nat) (D : DataW Value) (kv : Value) (ks : ByteArray) (w : World) : Prop where
  tab : Tab W0 n n N E qs D w
  at_ : ∀ s : ByteArray, 0 ≤ lastTo ss s n → D.atKey (.string s.data.toList) (.held (.pointer none)) = .held (mv ss qs n s)
  key : KeyIs E kv ks w

/-- What is asked at the end, by the three ways through 'share'. -/
def Fin (ss : List ByteArray) (n : Nat) (qs : Nat → Nat) (ks : ByteArray) (a4 : Bool) (ov : Value) (C sz : Nat) (D : DataW Value) (w : World) : Prop :=
  (a4 = false ∧ ov = .pointer none ∧ w.cell? ⟨C, 9, none⟩ = some (.pointer none) ∧ Maps.size D = sz ∧ Maps.has D (.string ks.data.toList) = decide (0 ≤ lastTo ss ks n) ∧ D.atKey (.string ks.data.toList) (.held (.pointer none)) = .held (mv ss qs n ks)) ∨
  ∃ o : Nat, a4 = true ∧ ov = .pointer (some ⟨o, 0, none⟩) ∧ w.cell? ⟨o, 0, none⟩ = some (.int .u64 7777) ∧
    ((0 ≤ lastTo ss ks n ∧ w.cell? ⟨C, 9, none⟩ = some (.pointer (some ⟨qs (lastTo ss ks n).toNat, 0, none⟩)) ∧ Maps.size D = sz) ∨
     (lastTo ss ks n < 0 ∧ w.cell? ⟨C, 9, none⟩ = some (.pointer (some ⟨o, 0, none⟩)) ∧ D.atKey (.string ks.data.toList) (.held (.pointer none)) = .held (.pointer (some ⟨o, 0, none⟩)) ∧ Maps.size D = sz + 1))

end Go.Proofs.Ybulkdano.Share
