/- A part of the proof of this claim: lemmas of its own; what is proved, and on what conditions, the last text says. -/
import Derived.Test.YtfpckklhljbelaaGreatDoorSxM
set_option linter.all false
namespace Go.Sx
open Go
variable [Syms]

/-- A state at the head of a loop, or behind it: which slots and blocks matter. -/
structure Way where
  e : AExit
  X : Type
  c : X → Prop
  s : X → List (Nat × AVal)
  b : X → List (Nat × ABlk)
  n : Nat

def exitEq : AExit → AExit → Bool
  | .normal, .normal => true
  | .exit i, .exit j => Nat.beq i j
  | .ret, .ret => true
  | _, _ => false
theorem exitEq_eq {a b : AExit} (h : exitEq a b = true) : a = b := by
  cases a <;> cases b <;> simp only [exitEq] at h <;> first | rfl | (rw [Nat.eq_of_beq_eq_true h]) | cases h
def wayFor (e : AExit) : List Way → Option Way
  | [] => none
  | W :: r => cond (exitEq e W.e) (some W) (wayFor e r)
theorem wayFor_ok {e : AExit} : ∀ {l : List Way} {W : Way}, wayFor e l = some W → W ∈ l ∧ W.e = e
  | V :: r, W, h => by
    simp only [wayFor] at h
    cases hb : exitEq e V.e with
    | true => rw [hb, cond_true] at h; cases h; exact ⟨List.mem_cons_self .., (exitEq_eq hb).symm⟩
    | false =>
      rw [hb, cond_false] at h
      obtain ⟨h1, h2⟩ := wayFor_ok h
      exact ⟨List.mem_cons_of_mem _ h1, h2⟩

/-- A loop's states, and the ways out. -/
structure LoopD where
  J : Type
  side : J → Prop
  μ : J → Nat
  fn : Nat
  s : J → List (Nat × AVal)
  b : J → List (Nat × ABlk)
  n : Nat
  ros : List Nat
  ways : List Way

def LoopD.K (D : LoopD) (j : D.J) : AExit → Fr → AHeap → Prop := fun e fr H => match e with
  | .normal => ∃ j', D.side j' ∧ D.μ j' < D.μ j ∧ entA fr H D.fn (D.s j') (D.b j') D.n D.ros
  | e => match wayFor e D.ways with
    | some W => ∃ x : W.X, W.c x ∧ entA fr H D.fn (W.s x) (W.b x) W.n D.ros
    | none => False
def allW (fn : Nat) (ros : List Nat) (K : AExit → Fr → AHeap → Prop) : List Way → Prop
  | [] => True
  | [W] => ∀ x, W.c x → K W.e (frOf fn (W.s x)) (hpOf (W.b x) W.n ros)
  | W :: r => (∀ x, W.c x → K W.e (frOf fn (W.s x)) (hpOf (W.b x) W.n ros)) ∧ allW fn ros K r
theorem allW_out {fn : Nat} {ros : List Nat} {K : AExit → Fr → AHeap → Prop} : ∀ {l : List Way}, allW fn ros K l → ∀ W ∈ l, ∀ x, W.c x → K W.e (frOf fn (W.s x)) (hpOf (W.b x) W.n ros)
  | [W], h, V, hV, x, hx => by rw [List.mem_singleton] at hV; subst hV; exact h x hx
  | W :: V' :: r, h, V, hV, x, hx => by
    rcases List.mem_cons.1 hV with rfl | hV
    · exact h.1 x hx
    · exact allW_out h.2 V hV x hx
def LoopD.at (D : LoopD) (j : D.J) : LSpec := fun fr H K => D.side j ∧ entA fr H D.fn (D.s j) (D.b j) D.n D.ros ∧ allW D.fn D.ros K D.ways

/-- The round. -/
def LoopD.Body (D : LoopD) (P : Program) (x : Code) : Prop := ∀ j, D.side j → WPw P x (frOf D.fn (D.s j)) (hpOf (D.b j) D.n D.ros) (D.K j)
theorem LoopD.ok {D : LoopD} {P : Program} {x : Code} (h : D.Body P x) {j : D.J} {fr : Fr} {H : AHeap} {K : AExit → Fr → AHeap → Prop} (hk : D.at j fr H K) : WPw P (.loop x) fr H K := by
  obtain ⟨h1, h2, h3⟩ := hk
  have := loopA (P := P) D.side D.μ D.fn D.s D.b D.n D.ros (x := x) (K := fun e fr H => match wayFor e D.ways with
    | some W => ∃ x : W.X, W.c x ∧ entA fr H D.fn (W.s x) (W.b x) W.n D.ros
    | none => False) (fun j hj => (h j hj).mono fun e fr H hK => by cases e <;> exact hK) j h1 h2
  refine this.post fun e fr H hK => ?_
  split at hK
  · rename_i W hW
    obtain ⟨x, hx, hent⟩ := hK
    obtain ⟨hm, he⟩ := wayFor_ok hW
    subst he
    exact ⟨_, _, entA_ok hent, allW_out h3 W hm x hx⟩
  · exact hK.elim
theorem LTok.nil {P : Program} {root : Code} : LTok P root [] := fun _ hx => by cases hx
theorem LTok.cons {P : Program} {root : Code} {p : List Nat} {s : LSpec} {LT : List (List Nat × LSpec)} (h : ∀ fr H K, s fr H K → WPw P (sub root p) fr H K) (hr : LTok P root LT) : LTok P root ((p, s) :: LT) := fun x hx => by
  rcases List.mem_cons.1 hx with rfl | hx
  · exact h
  · exact hr x hx
theorem of_eq {p q : Prop} (e : p = q) (h : q) : p := e ▸ h
end Go.Sx
