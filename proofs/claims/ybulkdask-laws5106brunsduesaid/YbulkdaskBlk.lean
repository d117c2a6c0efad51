import Derived.Below
import Derived.Laws.AppendOwn
import Derived.Laws.OwnMore
import Derived.Lib.SmallJoins
namespace Go.Proofs.Ybulkdask
open Go.RowKit

/-- Block b holds just these cells, none of them frozen. -/
def Bk (w : World) (b : Nat) (vs : Array Value) (t : TypeId) : Prop := w.heap[b]? = some (.cells vs t (0, 0))

theorem Bk.cell {w : World} {b : Nat} {vs : Array Value} {t : TypeId} (h : Bk w b vs t) (i : Nat) {v : Value} (hv : vs[i]? = some v) : w.cell? ⟨b, i, none⟩ = some v := (Go.Joins.cell_of_block h i).trans hv
theorem Bk.free {w : World} {b : Nat} {vs : Array Value} {t : TypeId} (h : Bk w b vs t) (i : Nat) : w.frozen? ⟨b, i, none⟩ = false := Go.Joins.unfrozen_of_block h i
theorem Bk.lt {w : World} {b : Nat} {vs : Array Value} {t : TypeId} (h : Bk w b vs t) : b < w.heap.size := by
  rcases Nat.lt_or_ge b w.heap.size with h' | h'
  · exact h'
  · unfold Bk at h
    rw [Array.getElem?_eq_none h'] at h
    cases h
theorem Bk.set {w : World} {b : Nat} {vs : Array Value} {t : TypeId} (h : Bk w b vs t) (i : Nat) (v : Value) : Bk (w.setCell ⟨b, i, none⟩ v) b (vs.setIfInBounds i v) t := Go.Joins.block_setCell h v
theorem Bk.put {w : World} {b : Nat} {vs : Array Value} {t : TypeId} (h : Bk w b vs t) {a : Addr} {v : Value} (hb : b ≠ a.block) : Bk (w.setCell a v) b vs t := (Below.heap_setCell w a v b hb).trans h
theorem Bk.alloc {w : World} {b : Nat} {vs : Array Value} {t : TypeId} (h : Bk w b vs t) (o : Obj) : Bk (w.alloc o) b vs t := (Below.heap_alloc w o b h.lt).trans h
theorem Bk.new (w : World) (vs : Array Value) (t : TypeId) : Bk (w.alloc (.cells vs t)) w.heap.size vs t := heap_alloc_new w _
theorem Bk.drew {w : World} {b : Nat} {vs : Array Value} {t : TypeId} (h : Bk w b vs t) : Bk w.drew b vs t := h
theorem Bk.below {w w' : World} {b B : Nat} {vs : Array Value} {t : TypeId} (h : Bk w b vs t) (k : Below B w w') (hb : b < B) : Bk w' b vs t := (k.block b hb).trans h
theorem Bk.grown {w w' : World} {b : Nat} {row : Option Nat} {vs : Array Value} {t : TypeId} (h : Bk w b vs t) (k : w.grownBy w' row) (hb : some b ≠ row) : Bk w' b vs t := (k.block b h.lt hb).trans h
theorem Bk.ne {w : World} {b b' : Nat} {vs vs' : Array Value} {t t' : TypeId} (h : Bk w b vs t) (h' : Bk w b' vs' t') (ht : t ≠ t') : b ≠ b' := by
  intro e
  subst e
  unfold Bk at h h'
  rw [h] at h'
  simp only [Option.some.injEq, Obj.cells.injEq] at h'
  exact ht h'.2.1
theorem Bk.ne_own {w : World} {b base size n : Nat} {vs : Array Value} {t e : TypeId} {v : Value} {xs : List Value} (h : Bk w b vs t) (ho : w.ownsRow base e size v n xs) (ht : t ≠ e) : some b ≠ v.ownBlock := by
  rcases ho.2 with ⟨rfl, _⟩ | ⟨g, cap, cur, rfl, _, hg, _⟩
  · simp [Value.ownBlock]
  · intro e
    simp only [Value.ownBlock, Option.some.injEq] at e
    exact (Bk.ne h (show Bk w g cur _ from hg) ht) e

theorem Bk.grownOwn {w w' : World} {b base size n : Nat} {vs : Array Value} {t e : TypeId} {v : Value} {xs : List Value} (hg : w.grownBy w' v.ownBlock) (ho : w.ownsRow base e size v n xs) (h : Bk w b vs t) (ht : t ≠ e) : Bk w' b vs t := h.grown hg (h.ne_own ho ht)

/-- The frame by kinds: below B all is as it was, and so is every block whose element type is not of the list. -/
structure Fr (B : Nat) (Ts : List TypeId) (w w' : World) : Prop where
  os : w'.os = w.os
  tape : w'.tape = w.tape
  output : w'.output = w.output
  size : w.heap.size ≤ w'.heap.size
  block : ∀ k, k < w.heap.size → (k < B ∨ ∀ cs t fr, w.heap[k]? = some (.cells cs t fr) → t ∉ Ts) → w'.heap[k]? = w.heap[k]?

theorem Fr.refl (B : Nat) (Ts : List TypeId) (w : World) : Fr B Ts w w := ⟨rfl, rfl, rfl, Nat.le_refl _, fun _ _ _ => rfl⟩
theorem Fr.trans {B : Nat} {Ts : List TypeId} {a b c : World} (h : Fr B Ts a b) (k : Fr B Ts b c) : Fr B Ts a c :=
  ⟨k.os.trans h.os, k.tape.trans h.tape, k.output.trans h.output, Nat.le_trans h.size k.size, fun i hi hc => by
    have e := h.block i hi hc
    refine (k.block i (Nat.lt_of_lt_of_le hi h.size) ?_).trans e
    rcases hc with hc | hc
    · exact .inl hc
    · exact .inr (fun cs t fr hb => hc cs t fr (e ▸ hb))⟩
theorem Fr.mono {B B' : Nat} {Ts Us : List TypeId} {a b : World} (h : Fr B Ts a b) (hB : B' ≤ B) (hT : ∀ t ∈ Ts, t ∈ Us) : Fr B' Us a b :=
  ⟨h.os, h.tape, h.output, h.size, fun i hi hc => h.block i hi (hc.elim (fun x => .inl (Nat.lt_of_lt_of_le x hB)) (fun x => .inr (fun cs t fr hb ht => x cs t fr hb (hT t ht))))⟩
theorem Fr.drew {B : Nat} {Ts : List TypeId} {a w : World} (h : Fr B Ts a w) : Fr B Ts a w.drew := ⟨h.os, h.tape, h.output, h.size, h.block⟩
theorem Fr.alloc {B : Nat} {Ts : List TypeId} {a w : World} (h : Fr B Ts a w) (o : Obj) : Fr B Ts a (w.alloc o) :=
  h.trans ⟨rfl, rfl, rfl, by simp, fun k hk _ => Below.heap_alloc _ _ _ hk⟩
theorem Fr.set {B : Nat} {Ts : List TypeId} {a w : World} (h : Fr B Ts a w) {b i : Nat} {vs : Array Value} {t : TypeId} (hb : Bk w b vs t) (hB : B ≤ b) (ht : t ∈ Ts) (v : Value) : Fr B Ts a (w.setCell ⟨b, i, none⟩ v) :=
  h.trans ⟨rfl, rfl, rfl, by simp, fun k hk hc => by
    refine Below.heap_setCell _ _ _ _ (fun e => ?_)
    have e' : k = b := e
    rcases hc with hc | hc
    · omega
    · exact hc _ _ _ (e' ▸ hb) ht⟩
/-- A store into a block that is new. -/
theorem Fr.setNew {B : Nat} {Ts : List TypeId} {a w : World} (h : Fr B Ts a w) {p : Addr} (hp : a.heap.size ≤ p.block) (v : Value) : Fr B Ts a (w.setCell p v) :=
  ⟨h.os, h.tape, h.output, by have := h.size; simp; omega, fun k hk hc => (Below.heap_setCell _ _ _ _ (by omega)).trans (h.block k hk hc)⟩
theorem Fr.below {B : Nat} {Ts : List TypeId} {a w w' : World} (h : Fr B Ts a w) (k : Below w.heap.size w w') : Fr B Ts a w' :=
  h.trans ⟨k.os, k.tape, k.output, k.size, fun i hi _ => k.block i hi⟩
theorem Fr.grown {B : Nat} {Ts : List TypeId} {a w w' : World} {base e size n : Nat} {v : Value} {xs : List Value} (h : Fr B Ts a w) (ho : w.ownsRow base e size v n xs) (hg : w.grownBy w' v.ownBlock) (hB : B ≤ base) (he : e ∈ Ts) : Fr B Ts a w' :=
  h.trans ⟨hg.os, hg.tape, hg.output, hg.size, fun i hi hc => by
    refine hg.block i hi ?_
    rcases ho.2 with ⟨rfl, _⟩ | ⟨g, cap, cur, rfl, hgb, hgc, _⟩
    · simp [Value.ownBlock]
    · intro e
      simp only [Value.ownBlock, Option.some.injEq] at e
      subst e
      rcases hc with hc | hc
      · omega
      · exact hc _ _ _ hgc he⟩
theorem Fr.toBelow {B : Nat} {Ts : List TypeId} {w w' : World} (h : Fr B Ts w w') (hB : B ≤ w.heap.size) : Below B w w' :=
  ⟨h.os, h.tape, h.output, h.size, fun i hi => h.block i (Nat.lt_of_lt_of_le hi hB) (.inl hi)⟩
theorem Fr.ofBelow {B : Nat} {Ts : List TypeId} {w w' : World} (k : Below w.heap.size w w') : Fr B Ts w w' := (Fr.refl B Ts w).below k

theorem Bk.fr {w w' : World} {b B : Nat} {vs : Array Value} {t : TypeId} {Ts : List TypeId} (h : Bk w b vs t) (k : Fr B Ts w w') (ht : t ∉ Ts) : Bk w' b vs t := by
  refine (k.block b h.lt (.inr ?_)).trans h
  intro cs t' fr hb
  unfold Bk at h
  rw [h] at hb
  simp only [Option.some.injEq, Obj.cells.injEq] at hb
  rw [← hb.2.1]
  exact ht
theorem Bk.frB {w w' : World} {b B : Nat} {vs : Array Value} {t : TypeId} {Ts : List TypeId} (h : Bk w b vs t) (k : Fr B Ts w w') (hb : b < B) : Bk w' b vs t := (k.block b h.lt (.inl hb)).trans h

/-- A row stays where its block stays. -/
theorem own_stays {w w' : World} {base size n : Nat} {e : TypeId} {v : Value} {xs : List Value} (h : w.ownsRow base e size v n xs) (hs : ∀ k, v.ownBlock = some k → w'.heap[k]? = w.heap[k]?) : w'.ownsRow base e size v n xs := by
  refine ⟨h.1, ?_⟩
  rcases h.2 with h0 | ⟨g, cap, cur, rfl, hg, hh, r⟩
  · exact .inl h0
  · exact .inr ⟨g, cap, cur, rfl, hg, (hs g rfl).trans hh, r⟩
theorem own_fr {w w' : World} {base B size n : Nat} {e : TypeId} {v : Value} {xs : List Value} {Ts : List TypeId} (h : w.ownsRow base e size v n xs) (k : Fr B Ts w w') (he : e ∉ Ts) : w'.ownsRow base e size v n xs := by
  refine own_stays h (fun g hg => ?_)
  rcases h.2 with ⟨rfl, _⟩ | ⟨g', cap, cur, rfl, hgb, hh, _⟩
  · simp [Value.ownBlock] at hg
  · simp only [Value.ownBlock, Option.some.injEq] at hg
    subst hg
    exact (Bk.fr (show Bk w g' cur e from hh) k he).trans hh.symm
theorem own_set {w : World} {base b size n : Nat} {t e : TypeId} {v : Value} {xs : List Value} {vs : Array Value} (h : w.ownsRow base e size v n xs) (hb : Bk w b vs t) (ht : t ≠ e) (i : Nat) (u : Value) : (w.setCell ⟨b, i, none⟩ u).ownsRow base e size v n xs := by
  refine own_stays h (fun k hk => Below.heap_setCell _ _ _ _ ?_)
  rintro rfl
  exact Bk.ne_own hb h ht hk.symm
theorem own_grown2 {w w' : World} {base base' size size' n n' : Nat} {e e' : TypeId} {v v' : Value} {xs xs' : List Value} (hg : w.grownBy w' v'.ownBlock) (h' : w.ownsRow base' e' size' v' n' xs') (h : w.ownsRow base e size v n xs) (he : e ≠ e') : w'.ownsRow base e size v n xs := by
  refine own_stays h (fun k hk => hg.block k (h.lt k hk).2 ?_)
  intro e1
  rcases h.2 with ⟨rfl, _⟩ | ⟨g, cap, cur, rfl, _, hh, _⟩
  · simp [Value.ownBlock] at hk
  · simp only [Value.ownBlock, Option.some.injEq] at hk
    subst hk
    exact Bk.ne_own (show Bk w g cur e from hh) h' he e1
theorem Fr.grown2 {B : Nat} {Ts : List TypeId} {a w w' : World} {base e size n : Nat} {v : Value} {xs : List Value} (hg : w.grownBy w' v.ownBlock) (ho : w.ownsRow base e size v n xs) (h : Fr B Ts a w) (hB : B ≤ base) (he : e ∈ Ts) : Fr B Ts a w' := h.grown ho hg hB he
theorem own_grown {w w' : World} {base base' size size' n n' : Nat} {e e' : TypeId} {v v' : Value} {xs xs' : List Value} (h : w.ownsRow base e size v n xs) (h' : w.ownsRow base' e' size' v' n' xs') (hg : w.grownBy w' v'.ownBlock) (he : e ≠ e') : w'.ownsRow base e size v n xs := by
  refine own_stays h (fun k hk => hg.block k (h.lt k hk).2 ?_)
  intro e1
  rcases h.2 with ⟨rfl, _⟩ | ⟨g, cap, cur, rfl, _, hh, _⟩
  · simp [Value.ownBlock] at hk
  · simp only [Value.ownBlock, Option.some.injEq] at hk
    subst hk
    exact Bk.ne_own (show Bk w g cur e from hh) h' he e1
end Go.Proofs.Ybulkdask
