/-
  A FUNCTION WHOSE DEFERRED CALLS ARE ALL OF BODY-LESS FUNCTIONS THAT THE MODEL STANDS IN FOR ('defer race.Enable()' in sync.WaitGroup's Add): the law for its body. Whatever the program.
-/
import Derived.Defers
namespace Go.Proofs.Ybulkdpks

/-- The deferred calls, one after the other, each answered by a stand-in of the model, lead from w to w'. -/
def DefersTo (P : Program) : List Deferred → World → World → Prop
  | [], w, w' => w' = w
  | d :: ds, w, w' => ∃ fv cap v w1, d.target = .fn fv cap ∧ (invoke d.target d.args).run P w = .ok (.value v) w1 ∧ DefersTo P ds w1 w'

def bodyPostE (P : Program) (fn : Func) (R : Ending → World → Prop) : Exit → Act → World → Prop
  | .normal, a, w | .ret, a, w => ∃ w' v, DefersTo P a.defers w w' ∧ (results fn a.tmps).run P w' = .ok v w' ∧ R (.returned v) w'
  | .outgrown, _, w => R .outgrown w
  | _, _, _ => False

theorem step_defer_value {P : Program} {fr : Frame} {cs : List Frame} {w w' : World} {d : Deferred} {ds : List Deferred} {fv : Fn} {cap : Array Value} {v : Value}
    (hm : fr.mode = .returning) (hd : fr.defers = d :: ds) (ht : d.target = .fn fv cap) (hi : (invoke d.target d.args).run P w = .ok (.value v) w') :
    step P (lone fr cs w) = .next (lone { fr with defers := ds } cs w') := by
  obtain ⟨t, a⟩ := d
  simp only at ht hi
  subst ht
  refine step_lone_go ?_
  simp [stepG, unwind, callDeferred, hm, hd, hi]

theorem defersTo_steps {P : Program} : ∀ (ds : List Deferred) (w w' : World) (fr : Frame) (cs : List Frame), fr.mode = .returning → fr.defers = ds → DefersTo P ds w w' →
    Steps P (lone fr cs w) (lone { fr with defers := [] } cs w') := by
  intro ds
  induction ds with
  | nil =>
    intro w w' fr cs hm hd h
    have h' : w' = w := h
    subst h'
    have e : ({ fr with defers := [] } : Frame) = fr := by rw [← hd]
    rw [e]
    exact Steps.refl P _
  | cons d ds ih =>
    intro w w' fr cs hm hd h
    obtain ⟨fv, cap, v, w1, ht, hi, hr⟩ := h
    exact .head (step_defer_value hm hd ht hi) (ih w1 w' { fr with defers := ds } cs hm rfl hr)

theorem calls_of_wp_ext {P : Program} {f : FuncId} {fn : Func} {c : Code} {args : Array Value} {w : World} {R : Ending → World → Prop}
    (hf : P.funcs[f]? = some fn) (hb : fn.body = some c)
    (h : c.wp P (bodyPostE P fn R) { tmps := args ++ Array.replicate (fn.ntmps - args.size) undef, defers := [] } w) : Calls P f args w R := by
  intro cs
  let b : Frame := { (default : Frame) with fn := f, kind := .normal }
  have henter : Frame.enter P f args .normal =
      b.at { tmps := args ++ Array.replicate (fn.ntmps - args.size) undef, defers := [] } [.code c] := by
    simp [Frame.enter, Frame.at, hf, hb, b]
  obtain ⟨e, a', w', hq, harr⟩ := h b [] cs
  rw [← henter] at harr
  cases e with
  | normal =>
    obtain ⟨w2, v, hds, hr, hR⟩ := hq
    have hs := defersTo_steps a'.defers w' w2 { b.at a' [] with mode := .returning } cs rfl rfl hds
    exact ⟨.returned v, w2, _, hR, Steps.trans (Steps.trans harr (.one step_end)) hs, rfl, rfl, rfl, rfl, fn, hf, hr⟩
  | ret =>
    obtain ⟨w2, v, hds, hr, hR⟩ := hq
    obtain ⟨todo, hs₀⟩ := harr
    have hs := defersTo_steps a'.defers w' w2 { b.at a' todo with mode := .returning } cs rfl rfl hds
    exact ⟨.returned v, w2, _, hR, Steps.trans hs₀ hs, rfl, rfl, rfl, rfl, fn, hf, hr⟩
  | panic chain => exact hq.elim
  | exit id => exact hq.elim
  | goto l => exact hq.elim
  | outgrown => exact ⟨.outgrown, w', b, hq, harr.resolve_left (by simp [b]), rfl, trivial⟩

/-- The door of a function that defers and does not panic: nothing is asked of a panic's way, since none is let. (A region that draws its order and holds a call wants that the panic's way look at no slot.) -/
def bodyPostF (P : Program) (fn : Func) (R : Ending → World → Prop) : Exit → Act → World → Prop
  | .normal, a, w | .ret, a, w => Leaves P fn a.tmps R a.defers .returning w
  | .outgrown, _, w => R .outgrown w
  | _, _, _ => False

theorem calls_of_wp_door {P : Program} {f : FuncId} {fn : Func} {c : Code} {args : Array Value} {w : World} {R : Ending → World → Prop}
    (hf : P.funcs[f]? = some fn) (hb : fn.body = some c)
    (h : c.wp P (bodyPostF P fn R) { tmps := args ++ Array.replicate (fn.ntmps - args.size) undef, defers := [] } w) : Calls P f args w R :=
  calls_of_wp_defers hf hb (wp_mono h (by
    intro e a w h
    cases e with
    | normal => exact h
    | ret => exact h
    | outgrown => exact h
    | panic chain => exact False.elim h
    | exit id => exact False.elim h
    | goto l => exact False.elim h))

end Go.Proofs.Ybulkdpks
