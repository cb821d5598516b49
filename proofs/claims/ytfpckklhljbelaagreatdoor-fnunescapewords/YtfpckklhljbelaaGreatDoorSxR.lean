/- A part of the proof of this claim: lemmas of its own; what is proved, and on what conditions, the last text says. -/
import Derived.Test.YtfpckklhljbelaaGreatDoorSxH
import Derived.Recover
set_option linter.all false
namespace Go.Sx
open Go
variable [Syms]

/-! ### a deferred function that asks `recover() != nil` and does nothing when nothing was to be caught -/
section
variable {P : Program} {w0 w : World} {F0 : Fp} {ι : Inj} {H : AHeap}

structure RecOk (P : Program) (f : FuncId) (fn : Func) (id : Nat) (o0 o1 : Oper) (c : Call) (T T2 : TypeId) (X : Code) : Prop where
  hf : P.funcs[f]? = some fn
  hb : fn.body = some (.seq (.region id #[o0, o1] false) (.cond (.tmp 2) X .skip))
  hn : (fn.name == "runtime.NumGoroutine") = false
  hr : fn.results = #[]
  d0 : o0.dst = some 1
  g0 : o0.guard = none
  p0 : o0.op = .call c
  pc : c.callee = .builtin .recover
  d1 : o1.dst = some 2
  g1 : o1.guard = none
  p1 : o1.op = .binOp .neq T (.tmp 1) (.const .nilIface) T2
  eq : ∃ ms, P.underlying T = some (.interface ms)
  n3 : fn.ntmps = 3

def recA : Spec := fun args H K => match args with
  | [_] => K (.tup []) H
  | _ => False

theorem rec_ok {f : FuncId} {fn : Func} {id : Nat} {o0 o1 : Oper} {c : Call} {T T2 : TypeId} {X : Code} (R : RecOk P f fn id o0 o1 c T T2 X) : SpecOkD P f recA := by
  refine ⟨⟨fn, R.hf, by rw [R.hb]; rfl, R.hn⟩, ?_⟩
  intro args H K hs w0 F0 ι w vs hi hd
  unfold recA at hs
  split at hs
  · rename_i x
    cases hd with
    | @cons _ p _ _ h1 h2 =>
    cases h2
    refine callsD_of_wpS R.hf R.hb fun c₀ cs hu => ?_
    have htm : ([p].toArray ++ Array.replicate (fn.ntmps - [p].toArray.size) undef) = #[p, undef, undef] := by
      rw [R.n3]; rfl
    rw [htm]
    refine wpS_seq (wpS_region ?_)
    have hrange : List.range (#[o0, o1] : Array Oper).size = [0, 1] := rfl
    rw [hrange]
    have e0 : (#[o0, o1] : Array Oper)[0]? = some o0 := rfl
    have e1 : (#[o0, o1] : Array Oper)[1]? = some o1 := rfl
    have w0' : ∀ y, Region.wanted o0 y = true := fun y => by simp [Region.wanted, R.g0]
    have w1' : ∀ y, Region.wanted o1 y = true := fun y => by simp [Region.wanted, R.g1]
    have hrec : recoverD (c₀ :: cs) = none := by simp [recoverD, hu]
    have hx0 : ∀ ρ, (execOp ρ o0).run P w = .ok .recover w := fun ρ => by
      simp only [execOp, R.p0, resolve, R.pc, Sem.run_bind, Sem.run_pure, Result.andThen_ok, invoke, builtin]
    have hx1 : ∀ ρ : Operand → Value, ρ (.tmp 1) = .nilIface → ρ (.const .nilIface) = .nilIface → (execOp ρ o1).run P w = .ok (.value (.bool false)) w := fun ρ h1 h2 => by
      obtain ⟨ms, hu⟩ := R.eq
      have hg := eqGuard_pass (P := P) (w := w) (op := .neq) (t := T) (x := .tmp 1) (y := .const .nilIface) (a := .nilIface) (b := .nilIface) (fun _ _ => rfl) (fun _ _ h => by cases h)
      have hb : (binOp .neq T .nilIface .nilIface).run P w = .ok (.bool false) w := by
        have e : binOp .neq T .nilIface .nilIface = (do pure (.bool (!(← Op.equal T .nilIface .nilIface)))) := rfl
        rw [e]
        have he : (Op.equal T .nilIface .nilIface).run P w = .ok true w := by
          have hd : Op.maxDepth = (Op.maxDepth - 1) + 1 := by decide
          rw [Op.equal, hd]
          simp [Op.equalIn, run_underlying hu]
        simp only [Sem.run_bind, he, Result.andThen_ok, Sem.run_pure]
        rfl
      simp only [execOp, R.p1, h1, h2, Sem.run_bind, hg, Result.andThen_ok, hb, Sem.run_pure]
    simp only [wpOpsS, e0, e1, w0', w1', if_true, hx0, hrec, R.d0]
    have hput : (({ tmps := #[p, undef, undef], defers := [] } : Act).put (some 1) .nilIface) = { tmps := #[p, .nilIface, undef], defers := [] } := rfl
    rw [hput]
    have := hx1 ({ tmps := #[p, .nilIface, undef], defers := [] } : Act).eval rfl rfl
    rw [this]
    simp only [Oper.upon, R.d1]
    have hput2 : (({ tmps := #[p, .nilIface, undef], defers := [] } : Act).put (some 2) (.bool false)) = { tmps := #[p, .nilIface, .bool false], defers := [] } := rfl
    rw [hput2]
    refine wpS_cond (t := false) rfl ?_
    refine wpS_of_wp (wp_skip ?_)
    refine ⟨rfl, .returning, by cases c₀; cases hu; rfl, .tuple #[], ?_, rfl, ?_⟩
    · simp [results, R.hr, Array.mapM_eq_mapM_toList]
    · exact ⟨_, H, ι, hs, .tup .nil, Inj.le_refl _, hi⟩
  · exact hs.elim
end
end Go.Sx
