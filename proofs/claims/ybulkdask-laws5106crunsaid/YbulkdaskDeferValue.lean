import Derived.Defers
import Derived.Tactics
namespace Go.Proofs.Ybulkdask.Dv

/-- A deferred call of a function without a Go body, made while the frame returns: one step; the frame goes on. -/
theorem step_defer_value {P : Program} {fr : Frame} {cs : List Frame} {w w' : World} {d : Deferred} {ds : List Deferred} {fv : Fn} {cap : Array Value} {v : Value}
    (hm : fr.mode = .returning) (hd : fr.defers = d :: ds) (ht : d.target = .fn fv cap) (hi : (invoke d.target d.args).run P w = .ok (.value v) w') :
    step P (lone fr cs w) = .next (lone { fr with defers := ds } cs w') := by
  obtain ⟨t, a⟩ := d
  simp only at ht hi
  subst ht
  refine step_lone_go ?_
  simp [stepG, unwind, callDeferred, hm, hd, hi]

/-- The body's end where ONE such call is still to be made. -/
def bodyPostV (P : Program) (fn : Func) (R : Ending → World → Prop) : Exit → Act → World → Prop
  | .normal, a, w | .ret, a, w => ∃ fv cap dargs u v w', a.defers = [{ target := .fn fv cap, args := dargs }] ∧ (invoke (.fn fv cap) dargs).run P w = .ok (.value u) w' ∧ (results fn a.tmps).run P w' = .ok v w' ∧ R (.returned v) w'
  | .outgrown, _, w => R .outgrown w
  | _, _, _ => False

theorem calls_of_wp_v {P : Program} {f : FuncId} {fn : Func} {c : Code} {args : Array Value} {w : World} {R : Ending → World → Prop}
    (hf : P.funcs[f]? = some fn) (hb : fn.body = some c)
    (h : c.wp P (bodyPostV P fn R) { tmps := args ++ Array.replicate (fn.ntmps - args.size) undef, defers := [] } w) : Calls P f args w R := by
  intro cs
  let b : Frame := { (default : Frame) with fn := f, kind := .normal }
  have henter : Frame.enter P f args .normal = b.at { tmps := args ++ Array.replicate (fn.ntmps - args.size) undef, defers := [] } [.code c] := by
    simp [Frame.enter, Frame.at, hf, hb, b]
  obtain ⟨e, a', w1, hq, harr⟩ := h b [] cs
  rw [← henter] at harr
  cases e with
  | normal =>
    obtain ⟨fv, cap, dargs, u, v, w', hd, hi, hr, hR⟩ := hq
    have h1 := step_defer_value (P := P) (fr := { b.at a' [] with mode := .returning }) (cs := cs) rfl hd rfl hi
    exact ⟨.returned v, w', _, hR, Steps.trans (Steps.trans harr (.one step_end)) (.one h1), rfl, rfl, rfl, rfl, fn, hf, hr⟩
  | ret =>
    obtain ⟨todo, hs₀⟩ := harr
    obtain ⟨fv, cap, dargs, u, v, w', hd, hi, hr, hR⟩ := hq
    have h1 := step_defer_value (P := P) (fr := { b.at a' todo with mode := .returning }) (cs := cs) rfl hd rfl hi
    exact ⟨.returned v, w', _, hR, Steps.trans hs₀ (.one h1), rfl, rfl, rfl, rfl, fn, hf, hr⟩
  | panic chain => exact hq.elim
  | exit id => exact hq.elim
  | goto l => exact hq.elim
  | outgrown => exact ⟨.outgrown, w1, b, hq, harr.resolve_left (by simp [b]), rfl, trivial⟩
end Go.Proofs.Ybulkdask.Dv
