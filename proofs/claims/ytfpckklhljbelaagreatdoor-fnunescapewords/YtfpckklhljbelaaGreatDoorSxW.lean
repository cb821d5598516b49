/- A part of the proof of this claim: lemmas of its own; what is proved, and on what conditions, the last text says. -/
import Derived.Test.YtfpckklhljbelaaGreatDoorSxR
import Derived.KernelRfl
set_option linter.all false
namespace Go.Sx
open Go
variable [Syms]

/-! ### one function alone: its loops as atoms; names may be given anew -/
def noι : Inj := fun _ => none
theorem noι_le (ι : Inj) : noι.le ι := fun _ _ h => by cases h

section
variable {P : Program} {w0 w : World} {F0 : Fp} {ι : Inj} {H : AHeap}

/-- As `WPc`; of the names nothing is promised behind it. -/
def WPw (P : Program) (c : Code) (fr : Fr) (H : AHeap) (K : AExit → Fr → AHeap → Prop) : Prop :=
  ∀ (w0 : World) (F0 : Fp) (ι : Inj) (w : World) (a : Act), Inv w0 F0 ι H w → FRel ι fr a → DRel ι H.defs a.defers → c.wp P (PostE w0 F0 noι K) a w
def AtW (P : Program) (root : Code) (p : List Nat) (fr : Fr) (H : AHeap) (K : AExit → Fr → AHeap → Prop) : Prop := WPw P (sub root p) fr H K

/-- What stands in for a loop. -/
abbrev LSpec := Fr → AHeap → (AExit → Fr → AHeap → Prop) → Prop
def findL (p : List Nat) : List (List Nat × LSpec) → Option LSpec
  | [] => none
  | (q, s) :: r => cond (eqN p q) (some s) (findL p r)
def LTok (P : Program) (root : Code) (LT : List (List Nat × LSpec)) : Prop := ∀ x ∈ LT, ∀ fr H K, x.2 fr H K → WPw P (sub root x.1) fr H K
theorem findL_ok {P : Program} {root : Code} {LT : List (List Nat × LSpec)} (h : LTok P root LT) {p : List Nat} {s : LSpec} (hs : findL p LT = some s) {fr : Fr} {H : AHeap} {K : AExit → Fr → AHeap → Prop} (hk : s fr H K) : WPw P (sub root p) fr H K := by
  induction LT with
  | nil => cases hs
  | cons x r ih =>
    obtain ⟨q, s'⟩ := x
    simp only [findL] at hs
    cases hb : eqN p q with
    | true =>
      rw [hb, cond_true] at hs
      cases hs
      rw [eqN_eq hb]
      exact h _ (List.mem_cons_self ..) _ _ _ hk
    | false =>
      rw [hb, cond_false] at hs
      exact ih (fun y hy => h y (List.mem_cons_of_mem _ hy)) hs

abbrev XFun := Code → List Nat → Code → Fr → AHeap → (AExit → Fr → AHeap → Prop) → Prop
def exV (P : Program) (ft : FuncId → Option Func) (T : Tabs) (LT : List (List Nat × LSpec)) (L : Lvl) (X : XFun) (root : Code) (p : List Nat) (c : Code) (fr : Fr) (H : AHeap) (K : AExit → Fr → AHeap → Prop) : Prop :=
    match c with
    | .skip => K .normal fr H
    | .region _ ops false => regA P (callX ft T.c (runF P L)) ops.toList ops.toList fr H (fun fr H => K .normal fr H)
    | .region _ ops true => regD P (callX ft T.c (runF P L)) ops fr H (fun fr H => K .normal fr H)
    | .seq a b => X root (0 :: p) a fr H (fun e fr H => match e with
        | .normal => X root (1 :: p) b fr H K
        | e => K e fr H)
    | .cond c a b => match eva fr c with
      | .lit (.bool t) => br t (X root (0 :: p) a (knowA fr c true) H K) (X root (1 :: p) b (knowA fr c false) H K)
      | _ => False
    | .block id b => X root (0 :: p) b fr H (fun e fr H => match e with
        | .exit i => cond (Nat.beq i id) (K .normal fr H) (K (.exit i) fr H)
        | e => K e fr H)
    | .loop _ => match findL p LT with
      | some s => s fr H K
      | none => False
    | .exit i => K (.exit i) fr H
    | .ret => K .ret fr H
    | .label _ => K .normal fr H
    | .scope b => X root (0 :: p) b fr H K
    | _ => False
def exW (P : Program) (ft : FuncId → Option Func) (T : Tabs) (LT : List (List Nat × LSpec)) : Nat → XFun
  | 0 => fun _ _ _ _ _ _ => False
  | n + 1 => exV P ft T LT (lvl P ft T n) (exW P ft T LT n)

theorem exW_ok {ft : FuncId → Option Func} {T : Tabs} (hft : FtOk P ft) (htab : TabOk P T) {LT : List (List Nat × LSpec)} {root : Code} (hLT : LTok P root LT) : ∀ (n : Nat) {p : List Nat} {c : Code} {fr : Fr} {H : AHeap} {K : AExit → Fr → AHeap → Prop}, exW P ft T LT n root p c fr H K → c = sub root p → WPw P c fr H K := by
  intro n
  induction n with
  | zero => intro p c fr H K h; exact h.elim
  | succ n ih =>
    intro p c fr H K h hc
    have hL := lvl_ok hft htab n
    have hcx : CxOk P (callX ft T.c (runF P (lvl P ft T n))) := by
      intro f args H K hx
      unfold callX at hx
      split at hx
      · rename_i s hs
        exact htab.c f s hs _ _ _ hx
      · split at hx
        · rename_i fn hfn
          split at hx
          · rename_i b hb
            obtain ⟨h1, h2, _⟩ := callX_ok hft hL hfn hb hx
            exact anext_of_calls h1 h2
          · exact hx.elim
        · exact hx.elim
    have h' : exV P ft T LT (lvl P ft T n) (exW P ft T LT n) root p c fr H K := h
    unfold exV at h'
    split at h'
    · intro w0 F0 ι w a hi hf hd
      exact wp_skip ⟨fr, H, ι, h', noι_le _, hf, hd, hi⟩
    · rename_i id ops
      intro w0 F0 ι w a hi hf hd
      refine wp_region_list ?_
      have hops : ops = ops.toList.toArray := by simp
      rw [hops]
      exact reg_ok (K := fun fr H => K .normal fr H) hcx _ h' hi hf hd (fun a' w' hp => PostF.le hp (noι_le _))
    · rename_i id ops
      intro w0 F0 ι w a hi hf hd
      exact regD_ok hcx (fun c a w hq => hq) h' hi hf hd (fun a' w' hp => PostF.le hp (noι_le _))
    · rename_i x y
      have hx : x = sub root (0 :: p) := by simp only [sub, ← hc, kid]
      have hy : y = sub root (1 :: p) := by simp only [sub, ← hc, kid]
      intro w0 F0 ι w a hi hf hd
      refine wp_seq (Code.wp_mono (fun e a' w' hp => ?_) (ih h' hx w0 F0 ι w a hi hf hd))
      cases e with
      | normal =>
        obtain ⟨fr', H', ι', hK, hle, hf', hd', hi'⟩ := hp
        exact ih hK hy w0 F0 ι' w' a' hi' hf' hd'
      | exit i => exact hp
      | ret => exact hp
      | goto l => exact hp
      | panic ch => exact hp
      | outgrown => exact hp
    · rename_i c0 x y
      split at h'
      · rename_i t ht
        intro w0 F0 ι w a hi hf hd
        have hev := hf.eval c0
        rw [ht] at hev
        generalize hv : a.eval c0 = v at hev
        cases hev with
        | lit =>
        have know : ∀ b, b = t → FRel ι (knowA fr c0 b) a := by
          intro b hb
          subst hb
          cases c0 with
          | tmp d => exact hf.know hv
          | const _ => exact hf
          | global _ => exact hf
          | func _ => exact hf
        rcases br_out h' with ⟨rfl, h'⟩ | ⟨rfl, h'⟩
        · exact wp_cond_true hv (ih h' (by simp only [sub, ← hc, kid]) w0 F0 ι w a hi (know true rfl) hd)
        · exact wp_cond_false hv (ih h' (by simp only [sub, ← hc, kid]) w0 F0 ι w a hi (know false rfl) hd)
      · exact h'.elim
    · rename_i id x
      intro w0 F0 ι w a hi hf hd
      refine wp_block (Code.wp_mono (fun e a' w' hp => ?_) (ih h' (by simp only [sub, ← hc, kid]) w0 F0 ι w a hi hf hd))
      cases e with
      | normal => exact hp
      | exit i =>
        obtain ⟨fr', H', ι', hK, hle, hf', hd', hi'⟩ := hp
        simp only [Exit.inBlock]
        by_cases hid : i = id
        · subst hid
          rw [if_pos rfl]
          simp only [beq_self, cond_true] at hK
          exact ⟨fr', H', ι', hK, hle, hf', hd', hi'⟩
        · rw [if_neg hid]
          simp only [beq_false hid, cond_false] at hK
          exact ⟨fr', H', ι', hK, hle, hf', hd', hi'⟩
      | ret => exact hp
      | goto l => exact hp
      | panic ch => exact hp
      | outgrown => exact hp
    · split at h'
      · rename_i s hs
        rw [hc]
        exact findL_ok hLT hs h'
      · exact h'.elim
    · intro w0 F0 ι w a hi hf hd
      exact wp_exit ⟨fr, H, ι, h', noι_le _, hf, hd, hi⟩
    · intro w0 F0 ι w a hi hf hd
      exact wp_ret ⟨fr, H, ι, h', noι_le _, hf, hd, hi⟩
    · intro w0 F0 ι w a hi hf hd
      exact wp_label ⟨fr, H, ι, h', noι_le _, hf, hd, hi⟩
    · rename_i x
      intro w0 F0 ι w a hi hf hd
      refine wp_scope_straight (Code.wp_mono (fun e a' w' hp => ?_) (ih h' (by simp only [sub, ← hc, kid]) w0 F0 ι w a hi hf hd))
      cases e <;> first | exact hp | exact hp.elim
    · exact h'.elim

/-! ### a state seen as another one -/
def Ent (fr : Fr) (H : AHeap) (fr2 : Fr) (H2 : AHeap) : Prop :=
  ∀ (w0 : World) (F0 : Fp) (ι : Inj) (w : World) (a : Act), Inv w0 F0 ι H w → FRel ι fr a → DRel ι H.defs a.defers → ∃ ι2, Inv w0 F0 ι2 H2 w ∧ FRel ι2 fr2 a ∧ DRel ι2 H2.defs a.defers
theorem WPw.ent {c : Code} {fr fr2 : Fr} {H H2 : AHeap} {K : AExit → Fr → AHeap → Prop} (he : Ent fr H fr2 H2) (h : WPw P c fr2 H2 K) : WPw P c fr H K := by
  intro w0 F0 ι w a hi hf hd
  obtain ⟨ι2, hi2, hf2, hd2⟩ := he w0 F0 ι w a hi hf hd
  exact h w0 F0 ι2 w a hi2 hf2 hd2
theorem WPw.mono {c : Code} {fr : Fr} {H : AHeap} {K K' : AExit → Fr → AHeap → Prop} (h : WPw P c fr H K) (hk : ∀ e fr H, K e fr H → K' e fr H) : WPw P c fr H K' := by
  intro w0 F0 ι w a hi hf hd
  refine Code.wp_mono (fun e a w hp => ?_) (h w0 F0 ι w a hi hf hd)
  cases e <;> first
    | (obtain ⟨fr', H', ι', hK, hr⟩ := hp; exact ⟨fr', H', ι', hk _ _ _ hK, hr⟩)
    | exact hp

/-- What holds behind it, seen as another state. -/
theorem WPw.post {c : Code} {fr : Fr} {H : AHeap} {K K' : AExit → Fr → AHeap → Prop} (h : WPw P c fr H K) (hk : ∀ e fr H, K e fr H → ∃ fr2 H2, Ent fr H fr2 H2 ∧ K' e fr2 H2) : WPw P c fr H K' := by
  intro w0 F0 ι w a hi hf hd
  refine Code.wp_mono (fun e a w hp => ?_) (h w0 F0 ι w a hi hf hd)
  cases e <;> first
    | (obtain ⟨fr', H', ι', hK, hle, hf', hd', hi'⟩ := hp
       obtain ⟨fr2, H2, hent, hK2⟩ := hk _ _ _ hK
       obtain ⟨ι2, hi2, hf2, hd2⟩ := hent w0 F0 ι' w a hi' hf' hd'
       exact ⟨fr2, H2, ι2, hK2, noι_le _, hf2, hd2, hi2⟩)
    | exact hp

/-- A loop: its states are told by a datum; each round comes to a smaller one, or leaves. -/
theorem loopW {J : Type} (side : J → Prop) (μ : J → Nat) (frT : J → Fr) (HT : J → AHeap) {x : Code} {K : AExit → Fr → AHeap → Prop}
    (h : ∀ j, side j → WPw P x (frT j) (HT j) (fun e fr' H' => match e with
      | .normal => ∃ j', side j' ∧ μ j' < μ j ∧ Ent fr' H' (frT j') (HT j')
      | e => K e fr' H')) : ∀ j, side j → WPw P (.loop x) (frT j) (HT j) K := by
  have key : ∀ (n : Nat) (j : J), side j → μ j ≤ n → ∀ (w0 : World) (F0 : Fp) (ι : Inj) (w : World) (a : Act), Inv w0 F0 ι (HT j) w → FRel ι (frT j) a → DRel ι (HT j).defs a.defers → ∀ (b : Frame) (k : List Item) (cs : List Frame),
      ∃ e a' w', PostE w0 F0 noι K e a' w' ∧ Arrives P (lone (b.at a (.code x :: .inLoop x :: k)) cs w) b k cs e a' w' := by
    intro n
    induction n with
    | zero =>
      intro j hj hn w0 F0 ι w a hi hf hd b k cs
      obtain ⟨e, a', w', hq, harr⟩ := h j hj w0 F0 ι w a hi hf hd b (.inLoop x :: k) cs
      cases e with
      | normal =>
        obtain ⟨fr', H', ι', ⟨j', _, hlt, _⟩, _⟩ := hq
        omega
      | exit i => exact ⟨.exit i, a', w', hq, .pass (x := .inLoop x) rfl (fun _ _ => .inl (by simp)) harr⟩
      | ret => exact ⟨.ret, a', w', hq, .pass (x := .inLoop x) rfl (fun _ _ => .inl (by simp)) harr⟩
      | goto l => exact hq.elim
      | panic ch => exact hq.elim
      | outgrown => exact hq.elim
    | succ n ih =>
      intro j hj hn w0 F0 ι w a hi hf hd b k cs
      obtain ⟨e, a', w', hq, harr⟩ := h j hj w0 F0 ι w a hi hf hd b (.inLoop x :: k) cs
      cases e with
      | normal =>
        obtain ⟨fr', H', ι', ⟨j', hj', hlt, hent⟩, _, hf', hd', hi'⟩ := hq
        obtain ⟨ι2, hi2, hf2, hd2⟩ := hent w0 F0 ι' w' a' hi' hf' hd'
        obtain ⟨e2, a2, w2, hq2, harr2⟩ := ih j' hj' (by omega) w0 F0 ι2 w' a' hi2 hf2 hd2 b k cs
        exact ⟨e2, a2, w2, hq2, .of_steps (Steps.trans harr (.one step_inLoop)) harr2⟩
      | exit i => exact ⟨.exit i, a', w', hq, .pass (x := .inLoop x) rfl (fun _ _ => .inl (by simp)) harr⟩
      | ret => exact ⟨.ret, a', w', hq, .pass (x := .inLoop x) rfl (fun _ _ => .inl (by simp)) harr⟩
      | goto l => exact hq.elim
      | panic ch => exact hq.elim
      | outgrown => exact hq.elim
  intro j hj w0 F0 ι w a hi hf hd b k cs
  obtain ⟨e, a', w', hq, harr⟩ := key (μ j) j hj (Nat.le_refl _) w0 F0 ι w a hi hf hd b k cs
  exact ⟨e, a', w', hq, .of_steps (.one step_loop) harr⟩

/-- A function by its body. -/
theorem callsW {dx : CallX} (hdx : DxOk P dx) {f : FuncId} {fn : Func} {b : Code} {args : List AVal} {K : AVal → AHeap → Prop} (hf : P.funcs[f]? = some fn) (hb : fn.body = some b) (hH : H.defs = [])
    (h : WPw P b (mkFr fn.ntmps args) H (finA P dx fn K)) : ∀ (w0 : World) (F0 : Fp) (ι : Inj) (w : World) (vs : List Value), Inv w0 F0 ι H w → DenL ι args vs → Calls P f vs.toArray w (PostV w0 F0 noι K) := by
  intro w0 F0 ι w vs hi hd
  exact calls_of_wp_defers hf hb (Code.wp_mono (fun e a w hp => fin_ok hdx hp) (h w0 F0 ι w _ hi (enter_rel hd) (by rw [hH]; exact .nil)))
end
end Go.Sx
