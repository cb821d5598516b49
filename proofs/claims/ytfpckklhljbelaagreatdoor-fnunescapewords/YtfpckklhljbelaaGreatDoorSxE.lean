/- A part of the proof of this claim: lemmas of its own; what is proved, and on what conditions, the last text says. -/
import Derived.Test.YtfpckklhljbelaaGreatDoorSxG
set_option linter.all false
namespace Go.Sx
open Go
variable [Syms]

section
variable {P : Program} {w0 w : World} {F0 : Fp} {ι : Inj} {H : AHeap}

def PostE (w0 : World) (F0 : Fp) (ι : Inj) (K : AExit → Fr → AHeap → Prop) : Exit → Act → World → Prop
  | .normal, a, w => PostF w0 F0 ι (K .normal) a w
  | .exit i, a, w => PostF w0 F0 ι (K (.exit i)) a w
  | .ret, a, w => PostF w0 F0 ι (K .ret) a w
  | _, _, _ => False

/-- The code `c`, from this frame and heap on. -/
def WPc (P : Program) (c : Code) (fr : Fr) (H : AHeap) (K : AExit → Fr → AHeap → Prop) : Prop :=
  ∀ (w0 : World) (F0 : Fp) (ι : Inj) (w : World) (a : Act), Inv w0 F0 ι H w → FRel ι fr a → DRel ι H.defs a.defers → c.wp P (PostE w0 F0 ι K) a w

def kid : Code → Nat → Code
  | .seq a _, 0 => a
  | .seq _ b, _ + 1 => b
  | .cond _ a _, 0 => a
  | .cond _ _ b, _ + 1 => b
  | .block _ b, _ => b
  | .loop b, _ => b
  | .scope b, _ => b
  | c, _ => c
/-- The part of a code at a path (the last step first). -/
def sub (root : Code) : List Nat → Code
  | [] => root
  | i :: p => kid (sub root p) i
def AtA (P : Program) (root : Code) (p : List Nat) (fr : Fr) (H : AHeap) (K : AExit → Fr → AHeap → Prop) : Prop := WPc P (sub root p) fr H K

abbrev Spec := List AVal → AHeap → (AVal → AHeap → Prop) → Prop

def fillT : List AVal → Nat → Tr AVal → Tr AVal
  | [], _, T => T
  | v :: r, i, T => fillT r (Nat.succ i) (T.set i (some v))
/-- The frame that a call begins with. -/
def mkFr (n : Nat) (args : List AVal) : Fr := ⟨args.length + (n - args.length), fillT args 0 .nil⟩
def oneOf : List AVal → AVal
  | [v] => v
  | l => .tup l

/-- The result variables, read. -/
def readA (P : Program) (fr : Fr) (H : AHeap) : List ResultVar → (List AVal → Prop) → Prop
  | [], K => K []
  | .tmp t :: r, K => readA P fr H r (fun l => K (fget fr t :: l))
  | .cell a t :: r, K => loadA P t (fget fr a) H (fun v _ => readA P fr H r (fun l => K (v :: l)))

/-- What was deferred, run; the last first. -/
def runD (dx : CallX) : List (Nat × List AVal) → AHeap → (AHeap → Prop) → Prop
  | [], H, K => K H
  | (g, as) :: r, H, K => dx g as H (fun _ H' => runD dx r (H'.withD []) K)

def finA (P : Program) (dx : CallX) (fn : Func) (K : AVal → AHeap → Prop) : AExit → Fr → AHeap → Prop
  | .exit _, _, _ => False
  | _, fr, H => runD dx H.defs (H.withD []) (fun H' => readA P fr H' fn.results.toList (fun l => K (oneOf l) H'))

/-- What stands in for a call: ordinary, deferred. -/
structure Tabs where
  c : FuncId → Option Spec
  d : FuncId → Option Spec

def callX (ft : FuncId → Option Func) (tab : FuncId → Option Spec) (run : Func → Code → Fr → AHeap → (AVal → AHeap → Prop) → Prop) : CallX := fun f args H K => match tab f with
  | some s => s args H K
  | none => match ft f with
    | some fn => match fn.body with
      | some b => run fn b (mkFr fn.ntmps args) (H.withD []) K
      | none => False
    | none => False

/-- The executor at one depth of calls and steps: a code; a deferred call. -/
structure Lvl where
  ex : Bool → Code → List Nat → Code → Fr → AHeap → (AExit → Fr → AHeap → Prop) → Prop
  dx : CallX

def runF (P : Program) (L : Lvl) (fn : Func) (b : Code) (fr : Fr) (H : AHeap) (K : AVal → AHeap → Prop) : Prop := L.ex true b [] b fr H (finA P L.dx fn K)

/-- `u`: loops are unrolled (else they are left as atoms). -/
def exC (P : Program) (ft : FuncId → Option Func) (T : Tabs) (L : Lvl) (u : Bool) (root : Code) (p : List Nat) (c : Code) (fr : Fr) (H : AHeap) (K : AExit → Fr → AHeap → Prop) : Prop :=
    match c with
    | .skip => K .normal fr H
    | .region _ ops false => regA P (callX ft T.c (runF P L)) ops.toList ops.toList fr H (fun fr H => K .normal fr H)
    | .region _ ops true => regD P (callX ft T.c (runF P L)) ops fr H (fun fr H => K .normal fr H)
    | .seq a b => L.ex u root (0 :: p) a fr H (fun e fr H => match e with
        | .normal => L.ex u root (1 :: p) b fr H K
        | e => K e fr H)
    | .cond c a b => match eva fr c with
      | .lit (.bool t) => br t (L.ex u root (0 :: p) a (knowA fr c true) H K) (L.ex u root (1 :: p) b (knowA fr c false) H K)
      | _ => False
    | .block id b => L.ex u root (0 :: p) b fr H (fun e fr H => match e with
        | .exit i => cond (Nat.beq i id) (K .normal fr H) (K (.exit i) fr H)
        | e => K e fr H)
    | .loop b => cond u (L.ex u root (0 :: p) b fr H (fun e fr H => match e with
        | .normal => L.ex u root p (.loop b) fr H K
        | e => K e fr H)) (AtA P root p fr H K)
    | .exit i => K (.exit i) fr H
    | .ret => K .ret fr H
    | .label _ => K .normal fr H
    | .scope b => L.ex u root (0 :: p) b fr H K
    | _ => False

def lvl (P : Program) (ft : FuncId → Option Func) (T : Tabs) : Nat → Lvl
  | 0 => ⟨fun _ _ _ _ _ _ _ => False, fun _ _ _ _ => False⟩
  | n + 1 => ⟨exC P ft T (lvl P ft T n), callX ft T.d (runF P (lvl P ft T n))⟩

/-- The executor. -/
def ex (P : Program) (ft : FuncId → Option Func) (T : Tabs) (n : Nat) : Bool → Code → List Nat → Code → Fr → AHeap → (AExit → Fr → AHeap → Prop) → Prop := (lvl P ft T n).ex

def FtOk (P : Program) (ft : FuncId → Option Func) : Prop := ∀ f fn, ft f = some fn → P.funcs[f]? = some fn ∧ (fn.name == "runtime.NumGoroutine") = false
/-- A deferred call, on the way of a return. -/
def ACallsD (P : Program) (f : FuncId) (args : List AVal) (H : AHeap) (K : AVal → AHeap → Prop) : Prop :=
  ∀ (w0 : World) (F0 : Fp) (ι : Inj) (w : World) (vs : List Value), Inv w0 F0 ι H w → DenL ι args vs → CallsD P f vs.toArray .returning w (fun e u' w' => u' = .returning ∧ PostV w0 F0 ι K e w')
def DxOk (P : Program) (dx : CallX) : Prop := ∀ f args H K, dx f args H K → FunOk P f ∧ ACallsD P f args H K
def SpecOk (P : Program) (f : FuncId) (s : Spec) : Prop := ∀ args H K, s args H K → ANext P f args H K
def SpecOkD (P : Program) (f : FuncId) (s : Spec) : Prop := FunOk P f ∧ ∀ args H K, s args H K → ACallsD P f args H K
structure TabOk (P : Program) (T : Tabs) : Prop where
  c : ∀ f s, T.c f = some s → SpecOk P f s
  d : ∀ f s, T.d f = some s → SpecOkD P f s

theorem read_ok {fr : Fr} {tmps : Array Value} (hf : ∀ t, Den ι (fget fr t) (tmps.getD t undef)) (hi : Inv w0 F0 ι H w) : ∀ (l : List ResultVar) {K : List AVal → Prop}, readA P fr H l K →
    ∃ as vs, (l.mapM (fun | .tmp t => pure (tmps.getD t undef) | .cell a t => do loadVar t (← asAddr (tmps.getD a undef)) : ResultVar → Sem Value)).run P w = .ok vs w ∧ DenL ι as vs ∧ K as := by
  have hev := hf
  intro l
  induction l with
  | nil => intro K h; exact ⟨[], [], rfl, .nil, h⟩
  | cons x r ih =>
    intro K h
    cases x with
    | tmp t =>
      obtain ⟨as, vs, hrun, hd, hK⟩ := ih h
      exact ⟨_, _, by simp only [List.mapM_cons, Sem.run_bind, Sem.run_pure, Result.andThen_ok, hrun], .cons (hev t) hd, hK⟩
    | cell a t =>
      simp only [readA] at h
      obtain ⟨x, y, hrun, hden, hK⟩ := loadA_ro (P := P) h hi (hev a)
      obtain ⟨as, vs, hrun', hd, hK⟩ := ih hK
      have hl := hrun w rfl
      have hl' : (do loadVar t (← asAddr (tmps.getD a undef)) : Sem Value).run P w = .ok y w := by
        generalize tmps.getD a undef = v at hl
        cases v with
        | pointer o =>
          cases o with
          | some ad => simpa [Instr.loadAt, Instr.sureAddr, asAddr] using hl
          | none => simp [Instr.loadAt, Instr.sureAddr] at hl
        | _ => simp [Instr.loadAt, Instr.sureAddr] at hl
      refine ⟨_, _, ?_, .cons hden hd, hK⟩
      simp only [List.mapM_cons, Sem.run_bind] at hl' ⊢
      rw [hl']
      simp only [Result.andThen_ok, hrun', Sem.run_pure]

theorem leaves_ok {dx : CallX} (hdx : DxOk P dx) {fn : Func} {tmps : Array Value} {K : AVal → AHeap → Prop} {fr : Fr} :
    ∀ (r : List (Nat × List AVal)) {ds : List Deferred} {ι0 ι : Inj} {H : AHeap} {w : World}, runD dx r H (fun H' => readA P fr H' fn.results.toList (fun l => K (oneOf l) H')) → DRel ι r ds → ι0.le ι → (∀ t, Den ι (fget fr t) (tmps.getD t undef)) → Inv w0 F0 ι H w →
      Leaves P fn tmps (PostV w0 F0 ι0 K) ds .returning w
  | [], _, ι0, ι, H, w, h, .nil, hle, hf, hinv => by
    obtain ⟨as, vs, hrun, hden, hK⟩ := read_ok (P := P) hf hinv _ h
    refine ⟨if h : vs.toArray.size = 1 then vs.toArray[0] else .tuple vs.toArray, ?_, ?_⟩
    · have : (fn.results.mapM (fun | .tmp t => pure (tmps.getD t undef) | .cell b t => do loadVar t (← asAddr (tmps.getD b undef)) : ResultVar → Sem Value)).run P w = .ok vs.toArray w := by
        rw [Array.mapM_eq_mapM_toList]
        simp only [Sem.run_map, hrun, Result.andThen_ok]
      simp only [results, Sem.run_bind]
      refine (congrArg (fun r => Result.andThen r _) this).trans ?_
      simp only [Result.andThen_ok, Sem.run_pure]
    · refine ⟨oneOf as, H, ι, hK, ?_, hle, hinv⟩
      cases hden with
      | nil => exact .tup .nil
      | cons h1 h2 =>
        cases h2 with
        | nil => exact h1
        | cons h2 h3 =>
          rw [dif_neg (by simp)]
          exact .tup (.cons h1 (.cons h2 h3))
  | (g, as) :: r, _, ι0, ι, H, w, h, .cons (d := d) (cap := cap) ht hd hr, hle, hf, hinv => by
    obtain ⟨hfun, hc⟩ := hdx g as H _ h
    refine ⟨by simp, _, _, _, _, ht, ?_, CallsD.mono (hc w0 F0 ι w _ hinv hd) fun e u' w' he => ?_⟩
    · rw [ht]
      simp only [invoke]
      rw [run_callFunc hfun]
      simp
    · obtain ⟨rfl, he⟩ := he
      cases e with
      | returned v =>
        obtain ⟨a, H', ι', hK, _, hle', hinv'⟩ := he
        exact leaves_ok hdx r hK (hr.mono hle') (Inj.le_trans hle hle') (fun t => (hf t).mono hle') (hinv'.withD _)
      | panicked c => exact he.elim
      | outgrown => exact he.elim

theorem fin_ok {dx : CallX} (hdx : DxOk P dx) {fn : Func} {K : AVal → AHeap → Prop} {e : Exit} {a : Act} (h : PostE w0 F0 ι (finA P dx fn K) e a w) : bodyPostD P fn (PostV w0 F0 ι K) e a w := by
  cases e with
  | normal =>
    obtain ⟨fr, H, ι', hK, hle, hf, hd, hinv⟩ := h
    exact leaves_ok hdx _ hK hd hle hf.t (hinv.withD _)
  | ret =>
    obtain ⟨fr, H, ι', hK, hle, hf, hd, hinv⟩ := h
    exact leaves_ok hdx _ hK hd hle hf.t (hinv.withD _)
  | exit i =>
    obtain ⟨fr, H, ι', hK, _⟩ := h
    exact hK.elim
  | goto l => exact h.elim
  | panic c => exact h.elim
  | outgrown => exact h.elim

theorem leavesD_steps {fn : Func} {tmps : Array Value} {R : Ending → World → Prop} : ∀ (ds : List Deferred) (u : FrameMode) (w : World) (fr : Frame)
    (cs : List Frame), fr.mode = u → fr.defers = ds → fr.tmps = tmps → P.funcs[fr.fn]? = some fn → fr.kind = .deferred → Leaves P fn tmps R ds u w →
    ∃ e w' fr', R e w' ∧ Comes P (lone fr cs w) (lone fr' cs w') e ∧ fr'.kind = .deferred ∧ fr'.going P w' e := by
  intro ds
  induction ds with
  | nil =>
    intro u w fr cs hu hd ht hf hk h
    cases u with
    | run => exact h.elim
    | returning =>
      obtain ⟨v, hr, hR⟩ := h
      exact ⟨.returned v, w, fr, hR, Steps.refl P _, hk, hu, hd, fn, hf, ht ▸ hr⟩
    | panicking chain => exact ⟨.panicked chain, w, fr, h, Steps.refl P _, hk, hu, hd, fn, hf⟩
  | cons d ds ih =>
    intro u w fr cs hu hd ht hf hk h
    obtain ⟨hrun, fv, cap, f, args, htar, hinv, hcall⟩ := h
    have h1 := step_defer (cs := cs) (hu ▸ hrun) hd htar hinv
    obtain ⟨e, u', w', frX, hR, hsteps, hkX, hgo⟩ := hcall { fr with defers := ds } cs hu
    cases e with
    | returned v =>
      have h2 := step_going_returned (c := { { fr with defers := ds } with mode := u' }) (cs := cs) hkX hgo
      obtain ⟨e', w'', fr', hR', hs', hk', hl'⟩ := ih (settle u') w' { { { fr with defers := ds } with mode := u' } with mode := settle u' } cs rfl rfl ht hf hk hR
      exact ⟨e', w'', fr', hR', Comes.of_steps (.head h1 (Steps.trans hsteps (.one h2))) hs', hk', hl'⟩
    | panicked chain =>
      have h2 := step_going_panicked (c := { { fr with defers := ds } with mode := u' }) (cs := cs) hgo
      obtain ⟨e', w'', fr', hR', hs', hk', hl'⟩ := ih (raised u' chain) w' { { { fr with defers := ds } with mode := u' } with mode := raised u' chain } cs rfl rfl ht hf hk hR
      exact ⟨e', w'', fr', hR', Comes.of_steps (.head h1 (Steps.trans hsteps (.one h2))) hs', hk', hl'⟩
    | outgrown => exact ⟨.outgrown, w', fr, hR, Outgrown.of_steps (.one h1) hsteps, hk, trivial⟩

theorem callsD_of_wp_defers {f : FuncId} {fn : Func} {c : Code} {args : Array Value} {u : FrameMode} {w : World} {R : Ending → World → Prop}
    (hf : P.funcs[f]? = some fn) (hb : fn.body = some c)
    (h : c.wp P (bodyPostD P fn R) { tmps := args ++ Array.replicate (fn.ntmps - args.size) undef, defers := [] } w) :
    CallsD P f args u w fun e u' w' => u' = u ∧ R e w' := by
  intro c₀ cs hu
  let b : Frame := { (default : Frame) with fn := f, kind := .deferred }
  have henter : Frame.enter P f args .deferred =
      b.at { tmps := args ++ Array.replicate (fn.ntmps - args.size) undef, defers := [] } [.code c] := by
    simp [Frame.enter, Frame.at, hf, hb, b]
  have hc : ({ c₀ with mode := u } : Frame) = c₀ := by subst hu; rfl
  obtain ⟨e, a', w', hq, harr⟩ := h b [] (c₀ :: cs)
  rw [← henter] at harr
  cases e with
  | normal =>
    obtain ⟨e', w'', fr', hR, hs, hk, hl⟩ := leavesD_steps a'.defers .returning w' { b.at a' [] with mode := .returning } (c₀ :: cs) rfl rfl rfl hf rfl hq
    exact ⟨e', u, w'', fr', ⟨rfl, hR⟩, (by rw [hc]; exact Comes.of_steps (Steps.trans harr (.one step_end)) hs), hk, hl⟩
  | ret =>
    obtain ⟨todo, hs₀⟩ := harr
    obtain ⟨e', w'', fr', hR, hs, hk, hl⟩ := leavesD_steps a'.defers .returning w' { b.at a' todo with mode := .returning } (c₀ :: cs) rfl rfl rfl hf rfl hq
    exact ⟨e', u, w'', fr', ⟨rfl, hR⟩, (by rw [hc]; exact Comes.of_steps hs₀ hs), hk, hl⟩
  | panic chain =>
    obtain ⟨todo, hs₀⟩ := harr
    obtain ⟨e', w'', fr', hR, hs, hk, hl⟩ := leavesD_steps a'.defers (.panicking chain) w' { b.at a' todo with mode := .panicking chain } (c₀ :: cs) rfl rfl rfl hf rfl hq
    exact ⟨e', u, w'', fr', ⟨rfl, hR⟩, (by rw [hc]; exact Comes.of_steps hs₀ hs), hk, hl⟩
  | exit id => exact hq.elim
  | goto l => exact hq.elim
  | outgrown => exact ⟨.outgrown, u, w', b, ⟨rfl, hq⟩, harr.resolve_left (by simp [b]), rfl, trivial⟩

theorem fillT_get : ∀ (l : List AVal) (i : Nat) (T : Tr AVal) (j : Nat), (fillT l i T).get j = if i ≤ j ∧ j < i + l.length then l[j - i]? else T.get j
  | [], i, T, j => by
    simp only [fillT, List.length_nil, Nat.add_zero]
    rw [if_neg (by omega)]
  | v :: r, i, T, j => by
    simp only [fillT, fillT_get r (Nat.succ i), Tr.get_set, List.length_cons]
    by_cases e : j = i
    · subst e
      rw [if_neg (by omega), if_pos rfl, if_pos (by omega)]
      simp
    · by_cases h : Nat.succ i ≤ j ∧ j < Nat.succ i + r.length
      · rw [if_pos h, if_pos (by omega)]
        have : j - i = (j - Nat.succ i) + 1 := by omega
        rw [this]
        simp
      · rw [if_neg h, if_neg e, if_neg (by omega)]
theorem enter_rel {args : List AVal} {vs : List Value} {n : Nat} (hd : DenL ι args vs) :
    FRel ι (mkFr n args) { tmps := vs.toArray ++ Array.replicate (n - vs.toArray.size) undef, defers := [] } := by
  have hl := hd.length
  refine ⟨by simp [mkFr, hl], fun t => ?_⟩
  simp only [mkFr, fget, fillT_get, Tr.get_nil, Nat.zero_le, true_and, Nat.zero_add, Nat.sub_zero, Array.getD_eq_getD_getElem?]
  by_cases h : t < args.length
  · rw [if_pos h]
    obtain ⟨x, hx⟩ : ∃ x, args[t]? = some x := ⟨args[t], List.getElem?_eq_getElem h⟩
    obtain ⟨y, hy, hxy⟩ := DenL.get hd t hx
    have : (vs.toArray ++ Array.replicate (n - vs.toArray.size) undef)[t]? = some y := by
      rw [Array.getElem?_append_left (by simp; omega)]
      simpa using hy
    rw [hx, this]
    exact hxy
  · rw [if_neg h]
    have : (vs.toArray ++ Array.replicate (n - vs.toArray.size) undef)[t]?.getD undef = undef := by
      rw [Array.getElem?_append_right (by simp; omega), Array.getElem?_replicate]
      split <;> rfl
    rw [this]
    exact .top

theorem acalls_of_body {dx : CallX} (hdx : DxOk P dx) {f : FuncId} {fn : Func} {b : Code} {args : List AVal} {K : AVal → AHeap → Prop} (hf : P.funcs[f]? = some fn) (hb : fn.body = some b) (hH : H.defs = [])
    (h : WPc P b (mkFr fn.ntmps args) H (finA P dx fn K)) : ACalls P f args H K := by
  intro w0 F0 ι w vs hi hd
  exact calls_of_wp_defers hf hb (Code.wp_mono (fun e a w hp => fin_ok hdx hp) (h w0 F0 ι w _ hi (enter_rel hd) (by rw [hH]; exact .nil)))

theorem acallsD_of_body {dx : CallX} (hdx : DxOk P dx) {f : FuncId} {fn : Func} {b : Code} {args : List AVal} {K : AVal → AHeap → Prop} (hf : P.funcs[f]? = some fn) (hb : fn.body = some b) (hH : H.defs = [])
    (h : WPc P b (mkFr fn.ntmps args) H (finA P dx fn K)) : ACallsD P f args H K := by
  intro w0 F0 ι w vs hi hd
  exact callsD_of_wp_defers hf hb (Code.wp_mono (fun e a w hp => fin_ok hdx hp) (h w0 F0 ι w _ hi (enter_rel hd) (by rw [hH]; exact .nil)))

def LvlOk (P : Program) (L : Lvl) : Prop :=
  (∀ {u : Bool} {root : Code} {p : List Nat} {c : Code} {fr : Fr} {H : AHeap} {K : AExit → Fr → AHeap → Prop}, L.ex u root p c fr H K → c = sub root p → WPc P c fr H K) ∧ DxOk P L.dx

def WPin (P : Program) (x : Code) (fr : Fr) (H : AHeap) (K : AExit → Fr → AHeap → Prop) : Prop :=
  ∀ (w0 : World) (F0 : Fp) (ι : Inj) (w : World) (a : Act), Inv w0 F0 ι H w → FRel ι fr a → DRel ι H.defs a.defers → ∀ (b : Frame) (k : List Item) (cs : List Frame),
    ∃ e a' w', PostE w0 F0 ι K e a' w' ∧ Arrives P (lone (b.at a (.code x :: .inLoop x :: k)) cs w) b k cs e a' w'

theorem PostE.le {ι' : Inj} {K : AExit → Fr → AHeap → Prop} {e : Exit} {a : Act} (h : PostE w0 F0 ι' K e a w) (hi : ι.le ι') : PostE w0 F0 ι K e a w := by
  cases e <;> first | exact PostF.le h hi | exact h

theorem loop_key {ft : FuncId → Option Func} {T : Tabs} {root : Code} {p : List Nat} {x : Code} {K : AExit → Fr → AHeap → Prop} (n : Nat) (hn : ∀ m, m ≤ n → LvlOk P (lvl P ft T m)) :
    ∀ {fr : Fr} {H : AHeap}, (lvl P ft T (n + 1)).ex true root p (.loop x) fr H K → .loop x = sub root p → WPin P x fr H K := by
  induction n with
  | zero => intro fr H h hc; exact h.elim
  | succ n ih =>
    intro fr H h hc w0 F0 ι w a hi hf hd b k cs
    rw [lvl] at h
    simp only [exC, cond_true] at h
    obtain ⟨e, a', w', hq, harr⟩ := (hn (n + 1) (Nat.le_refl _)).1 h (by simp only [sub, ← hc, kid]) w0 F0 ι w a hi hf hd b (.inLoop x :: k) cs
    cases e with
    | normal =>
      obtain ⟨fr', H', ι', hK, hle, hf', hd', hi'⟩ := hq
      obtain ⟨e2, a2, w2, hq2, harr2⟩ := ih (fun m hm => hn m (by omega)) hK hc w0 F0 ι' w' a' hi' hf' hd' b k cs
      exact ⟨e2, a2, w2, hq2.le hle, .of_steps (Steps.trans harr (.one step_inLoop)) harr2⟩
    | exit i => exact ⟨.exit i, a', w', hq, .pass (x := .inLoop x) rfl (fun _ _ => .inl (by simp)) harr⟩
    | ret => exact ⟨.ret, a', w', hq, .pass (x := .inLoop x) rfl (fun _ _ => .inl (by simp)) harr⟩
    | goto l => exact hq.elim
    | panic ch => exact hq.elim
    | outgrown => exact hq.elim

theorem callX_ok {ft : FuncId → Option Func} (hft : FtOk P ft) {L : Lvl} (hL : LvlOk P L) {f : FuncId} {args : List AVal} {H : AHeap} {K : AVal → AHeap → Prop} {fn : Func} {b : Code} (hfn : ft f = some fn) (hb : fn.body = some b)
    (h : runF P L fn b (mkFr fn.ntmps args) (H.withD []) K) : FunOk P f ∧ ACalls P f args H K ∧ ACallsD P f args H K := by
  obtain ⟨h1, h2⟩ := hft f fn hfn
  have hw := hL.1 h rfl
  refine ⟨⟨fn, h1, by rw [hb]; rfl, h2⟩, fun w0 F0 ι w vs hi hd => acalls_of_body hL.2 h1 hb rfl hw w0 F0 ι w vs (hi.withD []) hd, fun w0 F0 ι w vs hi hd => acallsD_of_body hL.2 h1 hb rfl hw w0 F0 ι w vs (hi.withD []) hd⟩

theorem lvl_ok {ft : FuncId → Option Func} {T : Tabs} (hft : FtOk P ft) (htab : TabOk P T) : ∀ (n : Nat), LvlOk P (lvl P ft T n) := by
  intro n
  induction n using Nat.strongRecOn with
  | ind n ih0 =>
  cases n with
  | zero => exact ⟨fun h => h.elim, fun _ _ _ _ h => h.elim⟩
  | succ n =>
    have hL := ih0 n (Nat.lt_succ_self n)
    have ih : ∀ {u : Bool} {root : Code} {p : List Nat} {c : Code} {fr : Fr} {H : AHeap} {K : AExit → Fr → AHeap → Prop}, (lvl P ft T n).ex u root p c fr H K → c = sub root p → WPc P c fr H K := fun h hc => hL.1 h hc
    replace ih0 : ∀ m, m ≤ n → LvlOk P (lvl P ft T m) := fun m hm => ih0 m (by omega)
    have hcx : CxOk P (callX ft T.c (runF P (lvl P ft T n))) := by
      intro f args H K hx
      unfold callX at hx
      split at hx
      · rename_i s hs
        exact htab.c f s hs _ _ _ hx
      · split at hx
        · rename_i fn hfn
          split at hx
          · rename_i b hb
            obtain ⟨h1, h2, _⟩ := callX_ok hft hL hfn hb hx
            exact anext_of_calls h1 h2
          · exact hx.elim
        · exact hx.elim
    have hdx : DxOk P (callX ft T.d (runF P (lvl P ft T n))) := by
      intro f args H K hx
      unfold callX at hx
      split at hx
      · rename_i s hs
        obtain ⟨h1, h2⟩ := htab.d f s hs
        exact ⟨h1, h2 _ _ _ hx⟩
      · split at hx
        · rename_i fn hfn
          split at hx
          · rename_i b hb
            obtain ⟨h1, _, h2⟩ := callX_ok hft hL hfn hb hx
            exact ⟨h1, h2⟩
          · exact hx.elim
        · exact hx.elim
    refine ⟨?_, hdx⟩
    intro u root p c fr H K h hc
    have h' : exC P ft T (lvl P ft T n) u root p c fr H K := h
    unfold exC at h'
    split at h'
    · intro w0 F0 ι w a hi hf hd
      exact wp_skip ⟨fr, H, ι, h', Inj.le_refl _, hf, hd, hi⟩
    · rename_i id ops
      intro w0 F0 ι w a hi hf hd
      refine wp_region_list ?_
      have hops : ops = ops.toList.toArray := by simp
      rw [hops]
      exact reg_ok (K := fun fr H => K .normal fr H) hcx _ h' hi hf hd (fun a' w' hp => hp)
    · rename_i id ops
      intro w0 F0 ι w a hi hf hd
      exact regD_ok hcx (fun c a w hq => hq) h' hi hf hd (fun a' w' hp => hp)
    · rename_i x y
      have hx : x = sub root (0 :: p) := by simp only [sub, ← hc, kid]
      have hy : y = sub root (1 :: p) := by simp only [sub, ← hc, kid]
      intro w0 F0 ι w a hi hf hd
      refine wp_seq (Code.wp_mono (fun e a' w' hp => ?_) (ih h' hx w0 F0 ι w a hi hf hd))
      cases e with
      | normal =>
        obtain ⟨fr', H', ι', hK, hle, hf', hd', hi'⟩ := hp
        exact Code.wp_mono (fun e a w hp => hp.le hle) (ih hK hy w0 F0 ι' w' a' hi' hf' hd')
      | exit i => exact hp
      | ret => exact hp
      | goto l => exact hp
      | panic ch => exact hp
      | outgrown => exact hp
    · rename_i c0 x y
      split at h'
      · rename_i t ht
        intro w0 F0 ι w a hi hf hd
        have hev := hf.eval c0
        rw [ht] at hev
        generalize hv : a.eval c0 = v at hev
        cases hev with
        | lit =>
        have know : ∀ b, b = t → FRel ι (knowA fr c0 b) a := by
          intro b hb
          subst hb
          cases c0 with
          | tmp d => exact hf.know hv
          | const _ => exact hf
          | global _ => exact hf
          | func _ => exact hf
        rcases br_out h' with ⟨rfl, h'⟩ | ⟨rfl, h'⟩
        · exact wp_cond_true hv (ih h' (by simp only [sub, ← hc, kid]) w0 F0 ι w a hi (know true rfl) hd)
        · exact wp_cond_false hv (ih h' (by simp only [sub, ← hc, kid]) w0 F0 ι w a hi (know false rfl) hd)
      · exact h'.elim
    · rename_i id x
      intro w0 F0 ι w a hi hf hd
      refine wp_block (Code.wp_mono (fun e a' w' hp => ?_) (ih h' (by simp only [sub, ← hc, kid]) w0 F0 ι w a hi hf hd))
      cases e with
      | normal => exact hp
      | exit i =>
        obtain ⟨fr', H', ι', hK, hle, hf', hd', hi'⟩ := hp
        simp only [Exit.inBlock]
        by_cases hid : i = id
        · subst hid
          rw [if_pos rfl]
          simp only [beq_self, cond_true] at hK
          exact ⟨fr', H', ι', hK, hle, hf', hd', hi'⟩
        · rw [if_neg hid]
          simp only [beq_false hid, cond_false] at hK
          exact ⟨fr', H', ι', hK, hle, hf', hd', hi'⟩
      | ret => exact hp
      | goto l => exact hp
      | panic ch => exact hp
      | outgrown => exact hp
    · rename_i x
      cases u with
      | false => rw [hc]; exact h'
      | true =>
        have hin := loop_key n ih0 h hc
        intro w0 F0 ι w a hi hf hd b k cs
        obtain ⟨e, a', w', hq, harr⟩ := hin w0 F0 ι w a hi hf hd b k cs
        exact ⟨e, a', w', hq, .of_steps (.one step_loop) harr⟩
    · intro w0 F0 ι w a hi hf hd
      exact wp_exit ⟨fr, H, ι, h', Inj.le_refl _, hf, hd, hi⟩
    · intro w0 F0 ι w a hi hf hd
      exact wp_ret ⟨fr, H, ι, h', Inj.le_refl _, hf, hd, hi⟩
    · intro w0 F0 ι w a hi hf hd
      exact wp_label ⟨fr, H, ι, h', Inj.le_refl _, hf, hd, hi⟩
    · rename_i x
      intro w0 F0 ι w a hi hf hd
      refine wp_scope_straight (Code.wp_mono (fun e a' w' hp => ?_) (ih h' (by simp only [sub, ← hc, kid]) w0 F0 ι w a hi hf hd))
      cases e <;> first | exact hp | exact hp.elim
    · exact h'.elim

/-- A function, run with its callees. -/
def runFn (P : Program) (ft : FuncId → Option Func) (T : Tabs) (n : Nat) (f : FuncId) (args : List AVal) (H : AHeap) (K : AVal → AHeap → Prop) : Prop :=
  callX ft (fun _ => none) (runF P (lvl P ft T n)) f args H K
theorem runFn_ok {ft : FuncId → Option Func} {T : Tabs} (hft : FtOk P ft) (htab : TabOk P T) {n : Nat} {f : FuncId} {args : List AVal} {K : AVal → AHeap → Prop} (h : runFn P ft T n f args H K) : ACalls P f args H K := by
  unfold runFn callX at h
  simp only at h
  split at h
  · rename_i fn hfn
    split at h
    · rename_i b hb
      exact (callX_ok hft (lvl_ok hft htab n) hfn hb h).2.1
    · exact h.elim
  · exact h.elim

end
end Go.Sx
