/- A part of the proof of this claim: lemmas of its own; what is proved, and on what conditions, the last text says. -/
import Derived.Test.YtfpckklhljbelaaGreatDoorSxC
import Derived.Test.YtfpckklhljbelaaGreatDoorSxA
import Derived.Laws.Small
set_option linter.all false
namespace Go.Sx
open Go
variable [Syms]

/-! ### one operation -/
/-- A frame: so many slots; what they hold. -/
structure Fr where
  n : Nat
  t : Tr AVal
def fget (fr : Fr) (t : Nat) : AVal := (fr.t.get t).getD .top
def fset (fr : Fr) (d : Nat) (v : AVal) : Fr := cond (Nat.blt d fr.n) ⟨fr.n, fr.t.set d (some v)⟩ fr

def eva (fr : Fr) : Operand → AVal
  | .tmp t => fget fr t
  | .const v => ofValue 3 v
  | .global g => .lit (.pointer (some ⟨g, 0, none⟩))
  | .func f => .fn (.func f) [] []

abbrev CallX := FuncId → List AVal → AHeap → (AVal → AHeap → Prop) → Prop

def callA (P : Program) (cx : CallX) (c : Call) (ρ : Operand → AVal) (H : AHeap) (K : AVal → AHeap → Prop) : Prop :=
  match c.callee with
  | .builtin b => match b, c.args.toList with
    | .len, [x] => match c.argTypes.toList with
      | t :: _ => lenA P t (ρ x) H (fun v => K v H)
      | _ => False
    | .cap, [x] => match c.argTypes.toList with
      | t :: _ => capA P t (ρ x) (fun v => K v H)
      | _ => False
    | .append, [s, x] => appendA P c.argTypes (ρ s) (ρ x) H K
    | .copy, [s, x] => copyA P c.argTypes (ρ s) (ρ x) H K
    | .min, [x, y] => match ρ x, ρ y with
      | .lit (.int k a), .lit (.int _ b) => K (.lit (.int k (cond (decide (b < a)) b a))) H
      | _, _ => False
    | .max, [x, y] => match ρ x, ρ y with
      | .lit (.int k a), .lit (.int _ b) => K (.lit (.int k (cond (decide (a < b)) b a))) H
      | _, _ => False
    | _, _ => False
  | .value f => match ρ f with
    | .fn (.func g) a b => cx g (a ++ c.args.toList.map ρ ++ b) H K
    | .fn (.method name) [] _ => match c.args.toList with
      | r :: rest => methA P 4 (ρ r) name H (fun g recv => cx g (recv :: rest.map ρ) H K)
      | [] => False
    | .fn (.method name) (r :: a) _ => methA P 4 r name H (fun g recv => cx g (recv :: (a ++ c.args.toList.map ρ)) H K)
    | _ => False
  | .invoke r name => methA P 4 (ρ r) name H (fun g recv => cx g (recv :: c.args.toList.map ρ) H K)

def opA (P : Program) (cx : CallX) (o : Op) (ρ : Operand → AVal) (H : AHeap) (K : AVal → AHeap → Prop) : Prop :=
  match o with
  | .move x => K (ρ x) H
  | .assign x => K (ρ x) H
  | .pick c a b => match ρ c with
    | .lit (.bool t) => br t (K (ρ a) H) (K (ρ b) H)
    | _ => False
  | .alloc e => allocA P e H K
  | .box e v => boxA e (ρ v) H K
  | .build t ps => buildA P t (ps.toList.map fun x => (x.1, ρ x.2)) (fun v => K v H)
  | .buildSlice t n ps => buildSliceA P t n (ps.toList.map fun x => (x.1, ρ x.2)) H K
  | .load t a => loadA P t (ρ a) H K
  | .store t a x => storeA P t (ρ a) (ρ x) H (fun H' => K undefA H')
  | .nilCheck x => nilA P (ρ x) (fun v => K v H)
  | .binOp op t x y _ => binA P op t (isC x || isC y) (ρ x) (ρ y) H (fun v => K v H)
  | .unOp op _ x => unA op (ρ x) (fun v => K v H)
  | .convert s d x => convA P s d (ρ x) H K
  | .makeInterface t x => ifaceA P t (ρ x) (fun v => K v H)
  | .makeFunc f a b => K (.fn f (a.toList.map ρ) (b.toList.map ρ)) H
  | .makeMap _ none => mapNewA H K
  | .makeSlice t l c => makeA P t (ρ l) (ρ c) H K
  | .slice t x l h m => sliceA P t (ρ x) (l.map ρ) (h.map ρ) (m.map ρ) (fun v => K v H)
  | .fieldAddr s x f => fieldAddrA P s (ρ x) f (fun v => K v H)
  | .field t x f => fieldA P t (ρ x) f (fun v => K v H)
  | .indexAddr t x i => indexAddrA P t (ρ x) (ρ i) (fun v => K v H)
  | .index t x i => indexA P t (ρ x) (ρ i) (fun v => K v H)
  | .lookup t m k ok => lookupA P t (ρ m) (ρ k) ok H (fun v => K v H)
  | .mapUpdate t m k v => updateA P t (ρ m) (ρ k) (ρ v) H (fun H' => K undefA H')
  | .insert t m k v => updateA P t (ρ m) (ρ k) (ρ v) H (fun H' => K undefA H')
  | .range t x => rangeA P t (ρ x) H K
  | .next x s => nextA (ρ x) s H K
  | .typeAssert x _ t ok => assertA P (ρ x) t ok (fun v => K v H)
  | .extract x i => extractA (ρ x) i (fun v => K v H)
  | .call c => callA P cx c ρ H K
  | _ => False

section
variable {P : Program} {w0 w : World} {F0 : Fp} {ι : Inj} {H : AHeap}

/-- A function that can be entered. -/
def FunOk (P : Program) (f : FuncId) : Prop := ∃ fn, P.funcs[f]? = some fn ∧ fn.body.isSome = true ∧ (fn.name == "runtime.NumGoroutine") = false
theorem run_callFunc {f : FuncId} {args : Array Value} (h : FunOk P f) : (callFunc f args).run P w = .ok (.enter f args) w := by
  obtain ⟨fn, hf, hb, hn⟩ := h
  have hb' : fn.body.isNone = false := by cases hfb : fn.body <;> simp_all
  simp only [callFunc, Sem.run_bind, run_program, Result.andThen_ok, hf]
  rw [if_neg (by rw [hn]; simp), if_neg (by rw [hb']; simp)]
  rfl

theorem ext1 (x : Value) (l : List Value) : ((x :: l).toArray).extract 1 ((x :: l).toArray).size = l.toArray := by
  rw [← Array.toList_inj]
  simp
theorem head1 (x : Value) (l : List Value) : ((x :: l).toArray)[0]? = some x := by simp

def PostV (w0 : World) (F0 : Fp) (ι : Inj) (K : AVal → AHeap → Prop) : Ending → World → Prop
  | .returned v, w' => ∃ a H' ι', K a H' ∧ Den ι' a v ∧ ι.le ι' ∧ Inv w0 F0 ι' H' w'
  | _, _ => False

/-- A call, over the abstract heap. -/
def ACalls (P : Program) (f : FuncId) (args : List AVal) (H : AHeap) (K : AVal → AHeap → Prop) : Prop :=
  ∀ (w0 : World) (F0 : Fp) (ι : Inj) (w : World) (vs : List Value), Inv w0 F0 ι H w → DenL ι args vs → Calls P f vs.toArray w (PostV w0 F0 ι K)


/-- What an operation comes to. -/
def NextOk (P : Program) (w0 : World) (F0 : Fp) (ι : Inj) (K : AVal → AHeap → Prop) : Result Next → Prop
  | .ok (.value v) w' => ∃ a H' ι', K a H' ∧ Den ι' a v ∧ ι.le ι' ∧ Inv w0 F0 ι' H' w'
  | .ok .skip w' => ∃ a H' ι', K a H' ∧ Den ι' a undef ∧ ι.le ι' ∧ Inv w0 F0 ι' H' w'
  | .ok (.enter f args) w' => Calls P f args w' (PostV w0 F0 ι K)
  | _ => False

/-- What a call comes to, of a function of Go or of one that the model reckons itself. -/
def ANext (P : Program) (f : FuncId) (args : List AVal) (H : AHeap) (K : AVal → AHeap → Prop) : Prop :=
  ∀ (w0 : World) (F0 : Fp) (ι : Inj) (w : World) (vs : List Value), Inv w0 F0 ι H w → DenL ι args vs → NextOk P w0 F0 ι K ((callFunc f vs.toArray).run P w)
theorem anext_of_calls {f : FuncId} {args : List AVal} {K : AVal → AHeap → Prop} (hf : FunOk P f) (h : ACalls P f args H K) : ANext P f args H K := fun w0 F0 ι w vs hi hd => by
  rw [run_callFunc hf]
  exact h w0 F0 ι w vs hi hd
def CxOk (P : Program) (cx : CallX) : Prop := ∀ f args H K, cx f args H K → ANext P f args H K

theorem next_of_ok {K : AVal → AHeap → Prop} {s : Sem Value} (h : Ok w0 F0 ι K (s.run P w)) : NextOk P w0 F0 ι K ((do pure (.value (← s)) : Sem Next).run P w) := by
  simp only [Sem.run_bind]
  cases hr : s.run P w with
  | ok v w' => rw [hr] at h; exact h
  | halt x w' => rw [hr] at h; exact h.elim
theorem next_of_okU {K : AVal → AHeap → Prop} {s : Sem Unit} (h : OkU w0 F0 ι (fun H' => K undefA H') (s.run P w)) : NextOk P w0 F0 ι K ((do s; pure .skip : Sem Next).run P w) := by
  simp only [Sem.run_bind]
  cases hr : s.run P w with
  | ok v w' =>
    rw [hr] at h
    obtain ⟨H', ι', hK, hle, hinv⟩ := h
    exact ⟨undefA, H', ι', hK, .tup .nil, hle, hinv⟩
  | halt x w' => rw [hr] at h; exact h.elim

theorem parts_den {ρ : Operand → AVal} {σ : Operand → Value} (hd : ∀ x, Den ι (ρ x) (σ x)) : ∀ (l : List (Nat × Operand)), PartsDen ι (l.map fun x => (x.1, ρ x.2)) (l.map fun x => (x.1, σ x.2))
  | [] => .nil
  | _ :: l => .cons (hd _) (parts_den hd l)
theorem map_den {ρ : Operand → AVal} {σ : Operand → Value} (hd : ∀ x, Den ι (ρ x) (σ x)) : ∀ (l : List Operand), DenL ι (l.map ρ) (l.map σ)
  | [] => .nil
  | _ :: l => .cons (hd _) (map_den hd l)
theorem opt_den {ρ : Operand → AVal} {σ : Operand → Value} (hd : ∀ x, Den ι (ρ x) (σ x)) : ∀ (o : Option Operand), ODen ι (o.map ρ) (o.map σ)
  | none => .none
  | some _ => .some (hd _)

theorem call_next {K : AVal → AHeap → Prop} {cx : CallX} (hcx : CxOk P cx) {f : FuncId} {args : List AVal} {vs : List Value} (h : cx f args H K) (hi : Inv w0 F0 ι H w) (hd : DenL ι args vs) {as : Array Value} (has : as = vs.toArray) : NextOk P w0 F0 ι K ((callFunc f as).run P w) := by
  rw [has]
  exact hcx f args H K h w0 F0 ι w vs hi hd

theorem callMethod_next {K : AVal → AHeap → Prop} {cx : CallX} (hcx : CxOk P cx) {r : AVal} {rv : Value} {name : String} {args : List AVal} {vs : List Value} (h : methA P 4 r name H (fun g recv => cx g (recv :: args) H K)) (hi : Inv w0 F0 ι H w) (hr : Den ι r rv) (hd : DenL ι args vs) :
    NextOk P w0 F0 ι K ((callMethod rv name vs.toArray).run P w) := by
  have hrv : ∃ t v, rv = .iface t v := by
    cases r <;> try exact h.elim
    cases hr
    exact ⟨_, _, rfl⟩
  obtain ⟨t, v, rfl⟩ := hrv
  obtain ⟨f, a, x, hrun, hden, hK⟩ := meth_ok (P := P) 4 (P.types.size + 96) h hi hr
  have hdep : P.types.size + Made.depth = P.types.size + 96 + 4 := rfl
  simp only [callMethod, Sem.run_bind, run_program, Result.andThen_ok, hdep, hrun]
  exact call_next hcx hK hi (.cons hden hd) (by simp)

theorem len1 {α : Type} {a : Array α} {x : α} (h : a.toList = [x]) : a = #[x] := by rw [← Array.toList_inj]; exact h
theorem len2 {α : Type} {a : Array α} {x y : α} (h : a.toList = [x, y]) : a = #[x, y] := by rw [← Array.toList_inj]; exact h

theorem call_ok {cx : CallX} (hcx : CxOk P cx) {c : Call} {t : TypeId} {ρ : Operand → AVal} {σ : Operand → Value} {K : AVal → AHeap → Prop} (h : callA P cx c ρ H K) (hi : Inv w0 F0 ι H w) (hd : ∀ x, Den ι (ρ x) (σ x)) :
    NextOk P w0 F0 ι K ((do let d ← resolve σ c t; invoke d.target d.args : Sem Next).run P w) := by
  unfold callA at h
  split at h
  · rename_i b hc
    simp only [resolve, hc, Sem.run_bind, Sem.run_pure, Result.andThen_ok, invoke]
    split at h
    · rename_i x hx
      have hx := len1 hx
      split at h
      · rename_i t0 r ht
        have e0 : c.argTypes[0]? = some t0 := by
          have : c.argTypes.toList[0]? = some t0 := by rw [ht]; rfl
          simpa using this
        simp only [hx, List.map_toArray, List.map_cons, List.map_nil, builtin]
        exact next_of_ok (len_ok h hi (hd x) e0)
      · exact h.elim
    · rename_i x hx
      have hx := len1 hx
      split at h
      · rename_i t0 r ht
        have e0 : c.argTypes[0]? = some t0 := by
          have : c.argTypes.toList[0]? = some t0 := by rw [ht]; rfl
          simpa using this
        simp only [hx, List.map_toArray, List.map_cons, List.map_nil, builtin]
        exact next_of_ok (cap_ok h hi (hd x) e0)
      · exact h.elim
    · rename_i s x hx
      have hx := len2 hx
      simp only [hx, List.map_toArray, List.map_cons, List.map_nil, builtin]
      exact next_of_ok (append_ok h hi (hd s) (hd x))
    · rename_i s x hx
      have hx := len2 hx
      simp only [hx, List.map_toArray, List.map_cons, List.map_nil, builtin]
      exact next_of_ok (copy_ok h hi (hd s) (hd x))
    · rename_i x y hx
      have hx := len2 hx
      split at h
      · rename_i k a k' b e1 e2
        have h1 := hd x
        have h2 := hd y
        rw [e1] at h1
        rw [e2] at h2
        simp only [hx, List.map_toArray, List.map_cons, List.map_nil, builtin]
        generalize σ x = vx at h1 ⊢
        generalize σ y = vy at h2 ⊢
        cases h1; cases h2
        refine next_of_ok ?_
        rw [run_min_int2]
        refine ⟨_, _, ι, h, ?_, Inj.le_refl _, hi⟩
        by_cases hc : b < a <;> simp [hc] <;> exact .lit
      · exact h.elim
    · rename_i x y hx
      have hx := len2 hx
      split at h
      · rename_i k a k' b e1 e2
        have h1 := hd x
        have h2 := hd y
        rw [e1] at h1
        rw [e2] at h2
        simp only [hx, List.map_toArray, List.map_cons, List.map_nil, builtin]
        generalize σ x = vx at h1 ⊢
        generalize σ y = vy at h2 ⊢
        cases h1; cases h2
        refine next_of_ok ?_
        rw [run_max_int2]
        refine ⟨_, _, ι, h, ?_, Inj.le_refl _, hi⟩
        by_cases hc : a < b <;> simp [hc] <;> exact .lit
      · exact h.elim
    · exact h.elim
  · rename_i f hc
    simp only [resolve, hc, Sem.run_bind]
    have hf := hd f
    split at h
    · rename_i g a b hr
      rw [hr] at hf
      generalize hsf : σ f = fv at hf
      cases hf with
      | fn ha hb =>
      simp only [Deferred.ofValue, Sem.run_pure, Result.andThen_ok, invoke]
      exact call_next hcx h hi ((ha.append (map_den hd _)).append hb) (by simp [← Array.toList_inj])
    · rename_i name b hr
      rw [hr] at hf
      generalize hsf : σ f = fv at hf
      cases hf with
      | fn ha hb =>
      cases ha
      split at h
      · rename_i r rest hargs
        simp only [Deferred.ofValue, Sem.run_pure, Result.andThen_ok]
        have hargs' : ([] : List Value).toArray ++ c.args.map σ = (σ r :: rest.map σ).toArray := by rw [← Array.toList_inj]; simp [hargs]
        simp only [invoke, hargs', head1, ext1]
        exact callMethod_next hcx h hi (hd r) (map_den hd rest)
      · exact h.elim
    · rename_i name r as b hr
      rw [hr] at hf
      generalize hsf : σ f = fv at hf
      cases hf with
      | fn ha hb =>
      cases ha with
      | @cons _ y _ ys h1 h2 =>
      simp only [Deferred.ofValue, Sem.run_pure, Result.andThen_ok]
      have hargs' : (y :: ys).toArray ++ c.args.map σ = (y :: (ys ++ c.args.toList.map σ)).toArray := by rw [← Array.toList_inj]; simp
      simp only [invoke, hargs', head1, ext1]
      exact callMethod_next hcx h hi h1 (h2.append (map_den hd _))
    · exact h.elim
  · rename_i r name hc
    simp only [resolve, hc, Sem.run_bind, Sem.run_pure, Result.andThen_ok]
    have hargs' : #[σ r] ++ c.args.map σ = (σ r :: c.args.toList.map σ).toArray := by rw [← Array.toList_inj]; simp
    simp only [invoke, hargs', head1, ext1]
    exact callMethod_next hcx h hi (hd r) (map_den hd _)

theorem op_ok {cx : CallX} (hcx : CxOk P cx) {o : Oper} {ρ : Operand → AVal} {σ : Operand → Value} {K : AVal → AHeap → Prop} (h : opA P cx o.op ρ H K) (hi : Inv w0 F0 ι H w) (hd : ∀ x, Den ι (ρ x) (σ x)) :
    NextOk P w0 F0 ι K ((execOp σ o).run P w) := by
  have one : ∀ {a : AVal} {v : Value}, K a H → Den ι a v → NextOk P w0 F0 ι K (.ok (.value v) w) := fun hK hv => ⟨_, _, ι, hK, hv, Inj.le_refl _, hi⟩
  obtain ⟨dst, op, type, pos, after, guard⟩ := o
  cases op <;> simp only [opA] at h <;> simp only [execOp]
  case move x => exact one h (hd x)
  case assign x => exact one h (hd x)
  case pick c a b =>
    split at h
    · rename_i t hc
      have hcd := hd c
      rw [hc] at hcd
      generalize hsc : σ c = cv at hcd ⊢
      cases hcd with
      | lit =>
      simp only [Sem.run_bind, asBool, Sem.run_pure, Result.andThen_ok]
      rcases br_out h with ⟨rfl, hK⟩ | ⟨rfl, hK⟩
      · exact one hK (hd a)
      · exact one hK (hd b)
    · exact h.elim
  case alloc e => exact next_of_ok (allocA_ok h hi)
  case box e v => exact next_of_ok (boxA_ok h hi (hd v))
  case build t ps => exact next_of_ok (buildA_ok h hi (by simpa using parts_den hd ps.toList))
  case buildSlice t n ps => exact next_of_ok (buildSlice_ok h hi (by simpa using parts_den hd ps.toList))
  case load t a => exact next_of_ok (loadA_ok h hi (hd a))
  case store t a x => exact next_of_okU (storeA_ok h hi (hd a) (hd x))
  case nilCheck x =>
    obtain ⟨y, hrun, hy, hK⟩ := nil_ok h hi (hd x)
    have := one hK hy
    rw [← hrun] at this
    exact this
  case binOp op t x y yt => exact next_of_ok (bin_ok h hi (hd x) (hd y))
  case unOp op t x => exact next_of_ok (un_ok h hi (hd x))
  case convert s d x => exact next_of_ok (conv_ok h hi (hd x))
  case makeInterface t x => exact next_of_ok (iface_ok h hi (hd x))
  case makeFunc f a b =>
    refine next_of_ok ⟨_, _, ι, h, ?_, Inj.le_refl _, hi⟩
    have e1 : a.map σ = (a.toList.map σ).toArray := by rw [← Array.toList_inj]; simp
    have e2 : b.map σ = (b.toList.map σ).toArray := by rw [← Array.toList_inj]; simp
    rw [e1, e2]
    exact .fn (map_den hd _) (map_den hd _)
  case makeMap t r =>
    cases r with
    | none => exact next_of_ok (mapNew_ok h hi)
    | some r => exact h.elim
  case makeSlice t l c => exact next_of_ok (make_ok h hi (hd l) (hd c))
  case slice t x l hh m => exact next_of_ok (sliceA_ok h hi (hd x) (opt_den hd l) (opt_den hd hh) (opt_den hd m))
  case fieldAddr s x f => exact next_of_ok (fieldAddrA_ok h hi (hd x))
  case field t x f => exact next_of_ok (fieldA_ok h hi (hd x))
  case indexAddr t x i => exact next_of_ok (indexAddrA_ok h hi (hd x) (hd i))
  case index t x i => exact next_of_ok (indexA_ok h hi (hd x) (hd i))
  case lookup t m k ok => exact next_of_ok (lookup_ok h hi (hd m) (hd k))
  case mapUpdate t m k v => exact next_of_okU (update_ok h hi (hd m) (hd k) (hd v))
  case insert t m k v => exact next_of_okU (update_ok h hi (hd m) (hd k) (hd v))
  case range t x => exact next_of_ok (range_ok h hi (hd x))
  case next x s => exact next_of_ok (next_ok h hi (hd x))
  case typeAssert x s t ok => exact next_of_ok (assert_ok h hi (hd x))
  case extract x i => exact next_of_ok (extract_ok h hi (hd x))
  case call c => exact call_ok hcx h hi hd

end
end Go.Sx
