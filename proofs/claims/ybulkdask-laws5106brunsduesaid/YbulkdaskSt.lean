import Derived.Test.YbulkdaskClos
namespace Go.Proofs.Ybulkdask.Hp
open Go.RowKit Go.Proofs.Ybulkdask.Tm Go.Proofs.Ybulkdask.Clk Go.Proofs.Ybulkdask.Lk
set_option linter.unusedSimpArgs false
set_option linter.unusedVariables false

/-- The closure that timer i runs. -/
def fvOf (Lg V Bs Ph : Nat) (Kb : Nat → Nat) (i : Nat) : Value := .func (.func 8) #[] #[.pointer (some ⟨Lg, 0, none⟩), .pointer (some ⟨Kb i, 0, none⟩), .pointer (some ⟨V, 0, none⟩), .pointer (some ⟨Bs, 0, none⟩), .pointer (some ⟨Ph, 0, none⟩)]

/-- The events' cells. -/
def evc (dd : Nat → Nat) (l : List (Nat × Int)) : List Value := l.flatMap (fun e => [.int .i64 (e.1 : Int), .int .i64 (dd e.1 : Int), .int .i64 e.2])

/-- All that stands between two steps of the law. -/
structure St (w : World) (B M Lg V Bs Ph : Nat) (P Kb dd : Nat → Nat) (N : Nat) (adv mu now : Int) (pend : Value) (h : List Nat) (l : List (Nat × Int)) (ph : Int) : Prop where
  H : HeapAt w B M P dd (fvOf Lg V Bs Ph Kb) N pend h
  Mb : Bk w M (man M adv mu now pend (N : Int)) 91
  L : ∃ lv, Bk w Lg #[lv] 30 ∧ w.ownsRow B 39 3 lv l.length (evc dd l)
  K : ∀ i, i < N → Bk w (Kb i) #[.int .i64 (i : Int)] 3
  V : Bk w V #[.pointer (some ⟨M, 0, none⟩)] 28
  Bs : Bk w Bs #[.int .u64 0, .int .i64 0, .pointer none] 27
  Ph : Bk w Ph #[.int .i64 ph] 3
  hp : Ord.isHeap dd h h.length
  bL : B ≤ Lg
  bM : B ≤ M

theorem St.man {w w' : World} {B M Lg V Bs Ph : Nat} {P Kb dd : Nat → Nat} {N : Nat} {adv mu now adv' mu' now' : Int} {pend : Value} {h : List Nat} {l : List (Nat × Int)} {ph : Int} (s : St w B M Lg V Bs Ph P Kb dd N adv mu now pend h l ph)
    (hM : Bk w' M (man M adv' mu' now' pend (N : Int)) 91) (k : Fr B [91] w w') : St w' B M Lg V Bs Ph P Kb dd N adv' mu' now' pend h l ph := by
  obtain ⟨lv, h1, h2⟩ := s.L
  exact ⟨s.H.fr k (by decide) (by decide), hM, ⟨lv, h1.fr k (by decide), own_fr h2 k (by decide)⟩, fun i hi => (s.K i hi).fr k (by decide), s.V.fr k (by decide), s.Bs.fr k (by decide), s.Ph.fr k (by decide), s.hp, s.bL, s.bM⟩
theorem St.below {w w' : World} {B M Lg V Bs Ph : Nat} {P Kb dd : Nat → Nat} {N : Nat} {adv mu now : Int} {pend : Value} {h : List Nat} {l : List (Nat × Int)} {ph : Int} (s : St w B M Lg V Bs Ph P Kb dd N adv mu now pend h l ph)
    (k : Below w.heap.size w w') : St w' B M Lg V Bs Ph P Kb dd N adv mu now pend h l ph := s.man (s.Mb.below k s.Mb.lt) (Fr.ofBelow k)
/-- A store into the clock's block. -/
theorem St.set {w : World} {B M Lg V Bs Ph : Nat} {P Kb dd : Nat → Nat} {N : Nat} {adv mu now adv' mu' now' : Int} {pend : Value} {h : List Nat} {l : List (Nat × Int)} {ph : Int} (s : St w B M Lg V Bs Ph P Kb dd N adv mu now pend h l ph)
    (i : Nat) (v : Value) (e : (Hp.man M adv mu now pend (N : Int)).setIfInBounds i v = Hp.man M adv' mu' now' pend (N : Int)) : St (w.setCell ⟨M, i, none⟩ v) B M Lg V Bs Ph P Kb dd N adv' mu' now' pend h l ph :=
  s.man (e ▸ s.Mb.set i v) ((Fr.refl B [91] w).set s.Mb s.bM (by decide) v)

/-- The timer popped. -/
theorem St.pop {w w' : World} {B M Lg V Bs Ph : Nat} {P Kb dd : Nat → Nat} {N : Nat} {adv mu now : Int} {pend pend' : Value} {h h' : List Nat} {l : List (Nat × Int)} {ph : Int} (s : St w B M Lg V Bs Ph P Kb dd N adv mu now pend h l ph)
    (H' : HeapAt w' B M P dd (fvOf Lg V Bs Ph Kb) N pend' h') (hM : Bk w' M ((Hp.man M adv mu now pend (N : Int)).setIfInBounds 7 pend') 91) (hp : Ord.isHeap dd h' h'.length) (k : Fr B [91, 93, 95] w w') : St w' B M Lg V Bs Ph P Kb dd N adv mu now pend' h' l ph := by
  obtain ⟨lv, h1, h2⟩ := s.L
  exact ⟨H', hM, ⟨lv, h1.fr k (by decide), own_fr h2 k (by decide)⟩, fun i hi => (s.K i hi).fr k (by decide), s.V.fr k (by decide), s.Bs.fr k (by decide), s.Ph.fr k (by decide), hp, s.bL, s.bM⟩

/-- The closure's contract, over the state. -/
theorem run_timer {w : World} {B M Lg V Bs Ph : Nat} {P Kb dd : Nat → Nat} {N : Nat} {adv : Int} {pend : Value} {h : List Nat} {l : List (Nat × Int)} {ph : Int} (i : Nat) (s : St w B M Lg V Bs Ph P Kb dd N adv 0 (dd i : Int) pend h l ph) (hi : i < N) (hBw : B ≤ w.heap.size) (hl : l.length < 1024) (hd : ∀ i, dd i < 1000) :
    Calls Yba.prog 8 #[.pointer (some ⟨Lg, 0, none⟩), .pointer (some ⟨Kb i, 0, none⟩), .pointer (some ⟨V, 0, none⟩), .pointer (some ⟨Bs, 0, none⟩), .pointer (some ⟨Ph, 0, none⟩)] w fun e w' => e = .returned (.tuple #[]) ∧ St w' B M Lg V Bs Ph P Kb dd N adv 0 (dd i : Int) pend h (l ++ [(i, ph)]) ph ∧ Fr B [91, 30, 39] w w' := by
  obtain ⟨lv, h1, h2⟩ := s.L
  have hdi := hd i
  refine (clos B M Lg (Kb i) V Bs Ph adv (dd i) pend N lv l.length (evc dd l) i ph w s.bL s.bM hBw hl (by omega) (by omega) ⟨h1, h2, s.Mb, s.K i hi, s.V, s.Bs, s.Ph, Fr.refl _ _ _⟩).mono ?_
  rintro e w' ⟨rfl, lv', c⟩
  refine ⟨rfl, ⟨s.H.fr c.F (by decide) (by decide), c.Mb, ⟨lv', c.L, ?_⟩, fun j hj => (s.K j hj).fr c.F (by decide), c.V, c.Bs, c.Ph, s.hp, s.bL, s.bM⟩, c.F⟩
  have := c.O
  rw [List.length_append, evc, List.flatMap_append]
  exact this
end Go.Proofs.Ybulkdask.Hp
