/-
  A DEFERRED CALL OF A BODY-LESS FUNCTION (internal/race.Enable): the kit's 'Leaves' speaks of deferred calls that are entered; this law of one that yields a value at once. Whatever the program.
-/
import Derived.Test.YbulkaftyC
namespace Go.Proofs.Ybulkafty
open Go

section
variable {P : Program}

theorem step_defer_value {fr : Frame} {cs : List Frame} {w : World} {d : Deferred} {ds : List Deferred} {fv : Fn} {cap : Array Value} {v : Value}
    (hm : fr.mode = .returning) (hd : fr.defers = d :: ds) (ht : d.target = .fn fv cap) (hi : (invoke d.target d.args).run P w = .ok (.value v) w) :
    step P (lone fr cs w) = .next (lone { fr with defers := ds } cs w) := by
  obtain ⟨t, a⟩ := d
  simp only at ht hi
  subst ht
  refine step_lone_go ?_
  simp [stepG, unwind, callDeferred, hm, hd, hi]

/-- What the body's end owes: one deferred call, of a function that yields a value at once. -/
def bodyPostV (P : Program) (fn : Func) (R : Ending → World → Prop) : Exit → Act → World → Prop
  | .ret, a, w => ∃ fv cap dargs v x, a.defers = [{ target := .fn fv cap, args := dargs }] ∧ (invoke (.fn fv cap) dargs).run P w = .ok (.value x) w ∧ (results fn a.tmps).run P w = .ok v w ∧ R (.returned v) w
  | _, _, _ => False

theorem calls_of_wp_deferV {f : FuncId} {fn : Func} {c : Code} {args : Array Value} {w : World} {R : Ending → World → Prop}
    (hf : P.funcs[f]? = some fn) (hb : fn.body = some c)
    (h : c.wp P (bodyPostV P fn R) { tmps := args ++ Array.replicate (fn.ntmps - args.size) undef, defers := [] } w) : Calls P f args w R := by
  intro cs
  let b : Frame := { (default : Frame) with fn := f, kind := .normal }
  have henter : Frame.enter P f args .normal =
      b.at { tmps := args ++ Array.replicate (fn.ntmps - args.size) undef, defers := [] } [.code c] := by
    simp [Frame.enter, Frame.at, hf, hb, b]
  obtain ⟨e, a', w', hq, harr⟩ := h b [] cs
  rw [← henter] at harr
  cases e with
  | ret =>
    obtain ⟨todo, hs₀⟩ := harr
    obtain ⟨fv, cap, dargs, v, x, hd, hi, hr, hR⟩ := hq
    have h1 := step_defer_value (P := P) (fr := { b.at a' todo with mode := .returning }) (cs := cs) (w := w') (d := { target := .fn fv cap, args := dargs }) (ds := []) rfl hd rfl hi
    exact ⟨.returned v, w', { { b.at a' todo with mode := .returning } with defers := [] }, hR, Comes.of_steps hs₀ (.one h1), rfl, rfl, rfl, rfl, fn, hf, hr⟩
  | normal => exact hq.elim
  | panic chain => exact hq.elim
  | exit id => exact hq.elim
  | goto l => exact hq.elim
  | outgrown => exact hq.elim
end
end Go.Proofs.Ybulkafty
