/- A part of the proof of this claim: lemmas of its own; what is proved, and on what conditions, the last text says. -/
import Derived.Test.YtfpckklhljbelaaGreatDoorSxF
set_option linter.all false
namespace Go.Sx
open Go
variable [Syms]

structure FRel (ι : Inj) (fr : Fr) (a : Act) : Prop where
  n : fr.n = a.tmps.size
  t : ∀ t, Den ι (fget fr t) (a.tmps.getD t undef)

def putA (fr : Fr) (d : Option Tmp) (v : AVal) : Fr :=
  match d with
  | some d => fset fr d v
  | none => fr

/-- The Bool in a slot, once it is known. -/
def knowA (fr : Fr) (x : Operand) (b : Bool) : Fr :=
  match x with
  | .tmp t => fset fr t (.lit (.bool b))
  | _ => fr

theorem fget_fset (fr : Fr) (d : Nat) (v : AVal) (j : Nat) : fget (fset fr d v) j = if j = d ∧ d < fr.n then v else fget fr j := by
  unfold fset
  cases hb : Nat.blt d fr.n with
  | true =>
    have h : d < fr.n := Nat.le_of_ble_eq_true hb
    simp only [cond_true, fget, Tr.get_set]
    by_cases e : j = d
    · simp [e, h]
    · simp [e]
  | false =>
    have h : ¬ d < fr.n := by
      intro h
      have : Nat.blt d fr.n = true := Nat.ble_eq_true_of_le h
      rw [this] at hb; cases hb
    simp [h]
theorem fset_n (fr : Fr) (d : Nat) (v : AVal) : (fset fr d v).n = fr.n := by
  unfold fset
  cases Nat.blt d fr.n <;> rfl

def wantA (all : List Oper) (o : Oper) (fr : Fr) (yes no : Fr → Prop) : Prop :=
  match o.guard with
  | none => yes fr
  | some (j, want) => match (nthA all j).bind (·.dst) with
    | some d => match fget fr d with
      | .lit (.bool b) => br b
        (cond want (yes (fset fr d (.lit (.bool true)))) (no (fset fr d (.lit (.bool true)))))
        (cond want (no (fset fr d (.lit (.bool false)))) (yes (fset fr d (.lit (.bool false)))))
      | .tup _ => no fr
      | _ => False
    | none => False

/-- One operation, over the frame. -/
def doA (P : Program) (cx : CallX) (o : Oper) (fr : Fr) (H : AHeap) (K : Fr → AHeap → Prop) : Prop :=
  match o.op with
  | .defer c => match c.callee with
    | .value f => match eva fr f with
      | .fn (.func g) a b => K (putA fr o.dst undefA) (H.withD ((g, a ++ c.args.toList.map (eva fr) ++ b) :: H.defs))
      | _ => False
    | _ => False
  | op => opA P cx op (eva fr) (H.withD []) (fun v H' => K (putA fr o.dst v) (H'.withD H.defs))

def regA (P : Program) (cx : CallX) (all : List Oper) : List Oper → Fr → AHeap → (Fr → AHeap → Prop) → Prop
  | [], fr, H, K => K fr H
  | o :: r, fr, H, K => wantA all o fr
    (fun fr => doA P cx o fr H (fun fr H' => regA P cx all r fr H' K))
    (fun fr => regA P cx all r (putA fr o.dst undefA) H K)

inductive AExit where
  | normal
  | exit (id : Nat)
  | ret

section
variable {P : Program} {w0 w : World} {F0 : Fp} {ι : Inj} {H : AHeap}

theorem FRel.eval {fr : Fr} {a : Act} (h : FRel ι fr a) (x : Operand) : Den ι (eva fr x) (a.eval x) := by
  cases x with
  | tmp t => exact h.t t
  | const v => exact ofValue_den 3 v
  | global g => exact .lit
  | func f => exact .fn .nil .nil

theorem FRel.put {fr : Fr} {a : Act} {v : AVal} {x : Value} (h : FRel ι fr a) (hv : Den ι v x) (d : Option Tmp) : FRel ι (putA fr d v) (a.put d x) := by
  cases d with
  | none => exact h
  | some d =>
    refine ⟨by simp [putA, Act.put, fset_n, h.n], fun t => ?_⟩
    simp only [putA, Act.put, fget_fset, h.n]
    by_cases e : t = d ∧ d < a.tmps.size
    · obtain ⟨rfl, hlt⟩ := e
      simp only [true_and, hlt, if_true]
      rw [Array.getD_eq_getD_getElem?, Array.getElem?_setIfInBounds]
      simpa [hlt] using hv
    · rw [if_neg e]
      have := h.t t
      rw [Array.getD_eq_getD_getElem?] at this ⊢
      rw [Array.getElem?_setIfInBounds]
      by_cases e1 : d = t
      · subst e1
        have hn : ¬ d < a.tmps.size := fun hl => e ⟨rfl, hl⟩
        have he : a.tmps[d]? = none := by
          rw [Array.getElem?_eq_none_iff]
          exact Nat.le_of_not_lt hn
        rw [he] at this
        rw [if_pos rfl, if_neg hn]
        exact this
      · simpa [e1] using this
theorem FRel.mono {ι' : Inj} {fr : Fr} {a : Act} (h : FRel ι fr a) (hi : ι.le ι') : FRel ι' fr a := ⟨h.n, fun t => (h.t t).mono hi⟩
/-- A slot that is known to hold a literal is set to it. -/
theorem FRel.know {fr : Fr} {a : Act} {d : Nat} {v : Value} (h : FRel ι fr a) (hv : a.tmps.getD d undef = v) : FRel ι (fset fr d (.lit v)) a := by
  refine ⟨by rw [fset_n]; exact h.n, fun t => ?_⟩
  rw [fget_fset]
  split
  · rename_i e
    rw [e.1, hv]
    exact .lit
  · exact h.t t

/-- What the function at hand has deferred. -/
inductive DRel (ι : Inj) : List (Nat × List AVal) → List Deferred → Prop
  | nil : DRel ι [] []
  | cons {g : Nat} {as : List AVal} {d : Deferred} {cap : Array Value} {r : List (Nat × List AVal)} {ds : List Deferred} (ht : d.target = .fn (.func g) cap) (hd : DenL ι as (d.args.toList ++ cap.toList)) (h : DRel ι r ds) : DRel ι ((g, as) :: r) (d :: ds)
theorem DRel.mono {ι ι' : Inj} (hi : ι.le ι') : ∀ {r ds}, DRel ι r ds → DRel ι' r ds
  | _, _, .nil => .nil
  | _, _, .cons ht hd h => .cons ht (DenL.mono hi hd) (DRel.mono hi h)

def PostF (w0 : World) (F0 : Fp) (ι : Inj) (K : Fr → AHeap → Prop) (a : Act) (w : World) : Prop :=
  ∃ fr H ι', K fr H ∧ ι.le ι' ∧ FRel ι' fr a ∧ DRel ι' H.defs a.defers ∧ Inv w0 F0 ι' H w
theorem PostF.le {ι' : Inj} {K : Fr → AHeap → Prop} {a : Act} (h : PostF w0 F0 ι' K a w) (hi : ι.le ι') : PostF w0 F0 ι K a w :=
  let ⟨fr, H, ι2, hK, hle, hf, hd, hinv⟩ := h
  ⟨fr, H, ι2, hK, Inj.le_trans hi hle, hf, hd, hinv⟩
theorem put_defers (a : Act) (d : Option Tmp) (x : Value) : (a.put d x).defers = a.defers := by cases d <;> rfl

theorem upon_of_next {o : Oper} {a : Act} {next : Act → World → Prop} {Q : Exit → Act → World → Prop} {K : AVal → AHeap → Prop} {r : Result Next} (h : NextOk P w0 F0 ι K r)
    (hn : ∀ v x H' ι' w', K x H' → Den ι' x v → ι.le ι' → Inv w0 F0 ι' H' w' → next (a.put o.dst v) w') : o.upon P a next Q r := by
  cases r with
  | halt x w' => exact h.elim
  | ok n w' =>
    cases n <;> first
      | exact h.elim
      | (obtain ⟨x, H', ι', hK, hd, hle, hinv⟩ := h
         exact hn _ x H' ι' w' hK hd hle hinv)
      | (refine Calls.mono h fun e w'' he => ?_
         cases e <;> first
           | exact he.elim
           | (obtain ⟨x, H', ι', hK, hd, hle, hinv⟩ := he
              exact hn _ x H' ι' w'' hK hd hle hinv))

theorem wantA_out {all : List Oper} {o : Oper} {fr : Fr} {yes no : Fr → Prop} {a : Act} (h : wantA all o fr yes no) (hf : FRel ι fr a) :
    (∃ fr', FRel ι fr' a ∧ Region.wanted o (yielded all.toArray a.tmps) = true ∧ yes fr') ∨ (∃ fr', FRel ι fr' a ∧ Region.wanted o (yielded all.toArray a.tmps) = false ∧ no fr') := by
  unfold wantA at h
  split at h
  · rename_i hg
    exact .inl ⟨fr, hf, by simp [Region.wanted, hg], h⟩
  · rename_i j want hg
    split at h
    · rename_i d hd'
      rw [nthA_eq] at hd'
      split at h
      · rename_i b hb
        have hvd := hf.t d
        rw [hb] at hvd
        generalize hgd : a.tmps.getD d undef = v at hvd
        cases hvd with
        | lit =>
        have hv' : a.tmps[d]? = some (.bool b) := by
          rw [Array.getD_eq_getD_getElem?] at hgd
          cases he : a.tmps[d]? with
          | none => rw [he] at hgd; cases hgd
          | some y => rw [he] at hgd; exact congrArg some hgd
        have hy : yielded all.toArray a.tmps j = some b := by simp [yielded, hd', hv']
        have hset : ∀ c, c = b → FRel ι (fset fr d (.lit (.bool c))) a := fun c hc => by
          subst hc
          exact hf.know hgd
        rcases br_out h with ⟨rfl, h⟩ | ⟨rfl, h⟩
        · cases want with
          | true => exact .inl ⟨_, hset true rfl, by simp [Region.wanted, hg, hy], h⟩
          | false => exact .inr ⟨_, hset true rfl, by simp [Region.wanted, hg, hy], h⟩
        · cases want with
          | true => exact .inr ⟨_, hset false rfl, by simp [Region.wanted, hg, hy], h⟩
          | false => exact .inl ⟨_, hset false rfl, by simp [Region.wanted, hg, hy], h⟩
      · rename_i cs hb
        have hvd := hf.t d
        rw [hb] at hvd
        generalize hgd : a.tmps.getD d undef = v at hvd
        cases hvd with
        | tup hcs =>
        have hy : yielded all.toArray a.tmps j = none := by
          rw [Array.getD_eq_getD_getElem?] at hgd
          cases he : a.tmps[d]? with
          | none => simp [yielded, hd', he]
          | some y =>
            rw [he] at hgd
            simp at hgd
            subst hgd
            simp [yielded, hd', he]
        exact .inr ⟨fr, hf, by simp [Region.wanted, hg, hy], h⟩
      · exact h.elim
    · exact h.elim

theorem do_ok {cx : CallX} (hcx : CxOk P cx) {o : Oper} {fr : Fr} {a : Act} {K : Fr → AHeap → Prop} {next : Act → World → Prop} {Q : Exit → Act → World → Prop} (h : doA P cx o fr H K) (hi : Inv w0 F0 ι H w) (hf : FRel ι fr a) (hd : DRel ι H.defs a.defers)
    (hn : ∀ a' fr' H' ι' w', K fr' H' → ι.le ι' → FRel ι' fr' a' → DRel ι' H'.defs a'.defers → Inv w0 F0 ι' H' w' → next a' w') : o.wp P a w next Q := by
  unfold doA at h
  unfold Oper.wp
  split at h
  · rename_i c hop
    split at h
    · rename_i f hc
      split at h
      · rename_i g x y hv
        have hfv := hf.eval f
        rw [hv] at hfv
        have hrun : ∃ d cap, (execOp a.eval o).run P w = .ok (.defer d) w ∧ d.target = .fn (.func g) cap ∧ DenL ι (x ++ c.args.toList.map (eva fr) ++ y) (d.args.toList ++ cap.toList) := by
          generalize hsf : a.eval f = fv at hfv
          cases hfv with
          | fn ha hb =>
          rename_i vs ws
          refine ⟨⟨.fn (.func g) ws.toArray, vs.toArray ++ c.args.map a.eval⟩, ws.toArray, ?_, rfl, ?_⟩
          rotate_left
          · show DenL ι _ ((vs.toArray ++ c.args.map a.eval).toList ++ ws.toArray.toList)
            simpa using (ha.append (map_den (fun x => hf.eval x) c.args.toList)).append hb
          · simp only [execOp, hop, resolve, hc, hsf, Deferred.ofValue, Sem.run_bind, Sem.run_pure, Result.andThen_ok]
        obtain ⟨d, cap, hrun, ht, hden⟩ := hrun
        rw [hrun, Oper.upon_defer]
        refine hn _ _ _ ι _ h (Inj.le_refl _) ?_ ?_ (hi.withD _)
        · have : FRel ι fr { a with defers := d :: a.defers } := ⟨hf.n, hf.t⟩
          exact this.put (.tup .nil) _
        · rw [put_defers]
          exact .cons ht hden hd
      · exact h.elim
    · exact h.elim
  · rename_i op hop
    refine upon_of_next (op_ok (o := o) hcx h (hi.withD []) (fun x => hf.eval x)) fun v x H' ι' w' hK hx hle hinv => ?_
    refine hn _ _ _ ι' _ hK hle ((hf.mono hle).put hx _) ?_ (hinv.withD _)
    rw [put_defers]
    exact hd.mono hle

theorem reg_ok {cx : CallX} (hcx : CxOk P cx) {all : List Oper} {Q : Exit → Act → World → Prop} {K : Fr → AHeap → Prop} :
    ∀ (l : List Oper) {ι : Inj} {fr : Fr} {H : AHeap} {a : Act} {w : World}, regA P cx all l fr H K → Inv w0 F0 ι H w → FRel ι fr a → DRel ι H.defs a.defers → (∀ a' w', PostF w0 F0 ι K a' w' → Q .normal a' w') → wpList P all.toArray Q l a w := by
  intro l
  induction l with
  | nil => intro ι fr H a w h hi hf hd hQ; exact hQ a w ⟨fr, H, ι, h, Inj.le_refl _, hf, hd, hi⟩
  | cons o r ih =>
    intro ι fr H a w h hi hf hd hQ
    simp only [regA] at h
    rcases wantA_out h hf with ⟨fr', hf', hw, h⟩ | ⟨fr', hf', hw, h⟩
    · simp only [wpList, hw, if_true]
      refine .inl (do_ok hcx h hi hf' hd fun a' fr2 H2 ι' w' hK hle hf2 hd2 hinv => ?_)
      exact ih hK hinv hf2 hd2 (fun a' w' hp => hQ a' w' (hp.le hle))
    · simp only [wpList, hw, Bool.false_eq_true, if_false]
      exact ih h hi (hf'.put (.tup .nil) _) (by rw [put_defers]; exact hd) hQ

end
end Go.Sx
