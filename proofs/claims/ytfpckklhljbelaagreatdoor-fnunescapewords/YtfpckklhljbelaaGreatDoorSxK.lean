/- A part of the proof of this claim: lemmas of its own; what is proved, and on what conditions, the last text says. -/
import Derived.Test.YtfpckklhljbelaaGreatDoorSxL
set_option linter.all false
namespace Go.Sx
open Go
variable [Syms]

section
variable {P : Program} {w0 w : World} {F0 : Fp} {ι : Inj} {H : AHeap}

/-- A function alone, with its loops told. -/
theorem fnW {ft : FuncId → Option Func} {T : Tabs} {LT : List (List Nat × LSpec)} (hft : FtOk P ft) (htab : TabOk P T) {f : FuncId} {fn : Func} {b : Code} {args : List AVal} {K : AVal → AHeap → Prop} (n : Nat) (hLT : LTok P b LT)
    (hf : P.funcs[f]? = some fn) (hb : fn.body = some b) (hH : H.defs = []) (h : exW P ft T LT n b [] b (mkFr fn.ntmps args) H (finA P (lvl P ft T n).dx fn K)) :
    ∀ (w0 : World) (F0 : Fp) (ι : Inj) (w : World) (vs : List Value), Inv w0 F0 ι H w → DenL ι args vs → Calls P f vs.toArray w (PostV w0 F0 noι K) :=
  callsW (lvl_ok hft htab n).2 hf hb hH (exW_ok hft htab hLT n h rfl)

def H0 : AHeap := ⟨.nil, 0, [], []⟩
def noF : Fp := ⟨fun _ => False, fun _ => False⟩
theorem Inv.empty (hi : Inv w0 F0 ι H w) : Inv w noF noι H0 w :=
  ⟨fun id b h => by simp [H0, AHeap.get, Tr.get_nil] at h, fun i j b c r h => by simp [H0, AHeap.get, Tr.get_nil] at h, fun _ _ => rfl, fun _ _ _ => rfl, Nat.le_refl _, rfl, rfl, rfl, hi.good, fun x hx => ⟨Nat.lt_of_lt_of_le (hi.glob.2 x hx).1 hi.size, fun h => h⟩⟩
/-- What stood stands. -/
theorem Inv.kept {ι' : Inj} {H' : AHeap} {w' : World} (h : Inv w noF ι' H' w') (hi : Inv w0 F0 ι H w) : Inv w0 F0 ι H w' := by
  refine ⟨fun id b hg => ?_, hi.inj, hi.fresh, fun r hr hf => ?_, Nat.le_trans hi.size h.size, h.tape.trans hi.tape, h.os.trans hi.os, h.output.trans hi.output, hi.glob⟩
  · obtain ⟨r, o, hr, ho, hb, hF⟩ := hi.blk id b hg
    refine ⟨r, o, hr, ?_, hb, hF⟩
    have hlt : r < w.heap.size := by
      rcases Nat.lt_or_ge r w.heap.size with h' | h'
      · exact h'
      · rw [Array.getElem?_eq_none h'] at ho; cases ho
    rw [h.frame r hlt (fun h => h)]
    exact ho
  · rw [h.frame r (Nat.lt_of_lt_of_le hr hi.size) (fun h => h)]
    exact hi.frame r hr hf

/-- A value without names. -/
def nl : AVal → Bool
  | .lit _ => true
  | .any => true
  | .top => true
  | .str _ => true
  | .rope _ => true
  | .lenr _ => true
  | .ub _ => true
  | .tup [] => true
  | .tup [a] => nl a
  | .tup [a, b] => nl a && nl b
  | .tup [a, b, c] => nl a && (nl b && nl c)
  | _ => false
theorem nl_den {ι ι' : Inj} : ∀ {a : AVal} {v : Value}, nl a = true → Den ι a v → Den ι' a v
  | .lit _, _, _, .lit => .lit
  | .any, _, _, .any h h' => .any h h'
  | .top, _, _, .top => .top
  | .str _, _, _, .str => .str
  | .rope _, _, _, .rope => .rope
  | .lenr _, _, _, .lenr => .lenr
  | .ub _, _, _, .ub h => .ub h
  | .tup [], _, _, .tup h => by cases h; exact .tup .nil
  | .tup [a], _, hn, .tup h => by
    cases h with
    | cons h1 h2 =>
    cases h2
    exact .tup (.cons (nl_den (by simpa [nl] using hn) h1) .nil)
  | .tup [a, b], _, hn, .tup h => by
    simp only [nl, Bool.and_eq_true] at hn
    cases h with
    | cons h1 h2 =>
    cases h2 with
    | cons h2 h3 =>
    cases h3
    exact .tup (.cons (nl_den hn.1 h1) (.cons (nl_den hn.2 h2) .nil))
  | .tup [a, b, c], _, hn, .tup h => by
    simp only [nl, Bool.and_eq_true] at hn
    cases h with
    | cons h1 h2 =>
    cases h2 with
    | cons h2 h3 =>
    cases h3 with
    | cons h3 h4 =>
    cases h4
    exact .tup (.cons (nl_den hn.1 h1) (.cons (nl_den hn.2.1 h2) (.cons (nl_den hn.2.2 h3) .nil)))
  | .tup (_ :: _ :: _ :: _ :: _), _, hn, _ => by simp [nl] at hn
  | .ptr _ _, _, hn, _ => by simp [nl] at hn
  | .slc .., _, hn, _ => by simp [nl] at hn
  | .rsl .., _, hn, _ => by simp [nl] at hn
  | .map _, _, hn, _ => by simp [nl] at hn
  | .fn .., _, hn, _ => by simp [nl] at hn
  | .ifc .., _, hn, _ => by simp [nl] at hn
  | .agg _, _, hn, _ => by simp [nl] at hn
theorem nlL_den {ι ι' : Inj} : ∀ {a : List AVal} {v : List Value}, a.all nl = true → DenL ι a v → DenL ι' a v
  | [], _, _, .nil => .nil
  | a :: as, _, h, .cons h1 h2 => by
    simp only [List.all_cons, Bool.and_eq_true] at h
    exact .cons (nl_den h.1 h1) (nlL_den h.2 h2)

/-- Of values without names, to such a value; `X`: what is said of the result. -/
def specN (A X : Type) (dec : List AVal → Option A) (dom : A → Prop) (G : A → X → Prop) (mk : X → AVal) : Spec := fun args H K => match dec args with
  | some a => dom a ∧ ∀ x, G a x → K (mk x) H
  | none => False
/-- The same where the result is reckoned. -/
def specF (A : Type) (dec : List AVal → Option A) (dom : A → Prop) (F : A → AVal) : Spec := fun args H K => match dec args with
  | some a => dom a ∧ K (F a) H
  | none => False

theorem acalls_nl {f : FuncId} {args : List AVal} {G : AVal → Prop} {K : AVal → AHeap → Prop} (hn : args.all nl = true)
    (h : ∀ (w0 : World) (F0 : Fp) (ι : Inj) (w : World) (vs : List Value), Inv w0 F0 ι H0 w → DenL ι args vs → Calls P f vs.toArray w (PostV w0 F0 noι (fun v _ => G v)))
    (hG : ∀ v, G v → nl v = true ∧ K v H) : ACalls P f args H K := by
  intro w0 F0 ι w vs hi hd
  refine Calls.mono (h w noF noι w vs (Inv.empty hi) (nlL_den hn hd)) fun e w' he => ?_
  cases e <;> first
    | exact he.elim
    | (obtain ⟨a, H', ι', hK, hda, _, hinv⟩ := he
       obtain ⟨h1, h2⟩ := hG a hK
       exact ⟨a, H, ι, h2, nl_den h1 hda, Inj.le_refl _, hinv.kept hi⟩)

theorem specN_ok {f : FuncId} {A X : Type} {dec : List AVal → Option A} {dom : A → Prop} {G : A → X → Prop} {mk : X → AVal} (hf : FunOk P f) (hmk : ∀ x, nl (mk x) = true)
    (h : ∀ args a, dec args = some a → dom a → args.all nl = true ∧ ∀ (w0 : World) (F0 : Fp) (ι : Inj) (w : World) (vs : List Value), Inv w0 F0 ι H0 w → DenL ι args vs → Calls P f vs.toArray w (PostV w0 F0 noι (fun v _ => ∃ x, G a x ∧ v = mk x))) :
    SpecOk P f (specN A X dec dom G mk) := by
  intro args H K hs
  unfold specN at hs
  split at hs
  · rename_i a ha
    obtain ⟨h1, h2⟩ := h args a ha hs.1
    exact anext_of_calls hf (acalls_nl h1 h2 fun v ⟨x, hx, e⟩ => by subst e; exact ⟨hmk x, hs.2 x hx⟩)
  · exact hs.elim
theorem specF_ok {f : FuncId} {A : Type} {dec : List AVal → Option A} {dom : A → Prop} {F : A → AVal} (hf : FunOk P f) (hmk : ∀ x, nl (F x) = true)
    (h : ∀ args a, dec args = some a → dom a → args.all nl = true ∧ ∀ (w0 : World) (F0 : Fp) (ι : Inj) (w : World) (vs : List Value), Inv w0 F0 ι H0 w → DenL ι args vs → Calls P f vs.toArray w (PostV w0 F0 noι (fun v _ => v = F a))) :
    SpecOk P f (specF A dec dom F) := by
  intro args H K hs
  unfold specF at hs
  split at hs
  · rename_i a ha
    obtain ⟨h1, h2⟩ := h args a ha hs.1
    exact anext_of_calls hf (acalls_nl h1 h2 fun v e => by subst e; exact ⟨hmk a, hs.2⟩)
  · exact hs.elim
def dec1 : List AVal → Option (List UInt8)
  | [.str l] => some l
  | _ => none
theorem dec1_ok {args : List AVal} {l : List UInt8} (h : dec1 args = some l) : args = [.str l] := by
  unfold dec1 at h
  split at h
  · cases h; rfl
  · cases h
end

theorem gd_iff {b : Bool} {p : Prop} : gd b p ↔ (b = true ∧ p) := ⟨gd_out, fun h => gd_in h.1 h.2⟩
theorem br_iff {b : Bool} {p q : Prop} : br b p q ↔ ((b = true → p) ∧ (b = false → q)) :=
  ⟨fun h => by
    cases b
    · exact ⟨fun e => (by cases e), fun _ => h⟩
    · exact ⟨fun _ => h, fun e => (by cases e)⟩, fun h => br_in h.1 h.2⟩
theorem blt_iff {a b : Nat} : Nat.blt a b = true ↔ a < b := ⟨blt_lt, fun h => Nat.ble_eq_true_of_le h⟩
theorem ble_iff {a b : Nat} : Nat.ble a b = true ↔ a ≤ b := ⟨ble_le, fun h => Nat.ble_eq_true_of_le h⟩
theorem blt_iff' {a b : Nat} : Nat.blt a b = false ↔ b ≤ a := by
  rw [← Bool.not_eq_true, blt_iff]; omega
theorem ble_iff' {a b : Nat} : Nat.ble a b = false ↔ b < a := by
  rw [← Bool.not_eq_true, ble_iff]; omega
end Go.Sx
