/- A part of the proof of this claim: lemmas of its own; what is proved, and on what conditions, the last text says. -/
import Derived.Test.YtfpckklhljbelaaGreatDoorSx2
set_option linter.all false
namespace Go.Sx
open Go
variable [Syms]

/-! ### texts by tokens -/
theorem tokB_lit {t : Nat} (h : Nat.blt t 256 = true) : tokB t = [UInt8.ofNat t] := by simp [tokB, h]
theorem tokB_sym {t : Nat} (h : Nat.blt t 256 = false) : tokB t = Syms.w (t - 256) := by simp [tokB, h]
theorem flat_append (a b : List Nat) : flat (a ++ b) = flat a ++ flat b := by
  induction a with
  | nil => rfl
  | cons t r ih => simp [flat, ih]
theorem flat_nil : flat [] = [] := rfl
theorem flat_cons (t : Nat) (r : List Nat) : flat (t :: r) = tokB t ++ flat r := rfl

/-- A known text by tokens. -/
def litR : List UInt8 → List Nat
  | [] => []
  | b :: r => b.toNat :: litR r
theorem flat_litR : ∀ l, flat (litR l) = l
  | [] => rfl
  | b :: r => by
    have hb : Nat.blt b.toNat 256 = true := Nat.ble_eq_true_of_le (UInt8.toNat_lt b)
    simp [litR, flat, tokB_lit hb, flat_litR r]

/-- At least so long; at most so long. -/
def tokLo (t : Nat) : Nat := cond (Nat.blt t 256) 1 (Syms.cls (t - 256)).lo
def tokHi (t : Nat) : Nat := cond (Nat.blt t 256) 1 (Syms.cls (t - 256)).hi
def loR : List Nat → Nat
  | [] => 0
  | t :: r => tokLo t + loR r
def hiR : List Nat → Nat
  | [] => 0
  | t :: r => tokHi t + hiR r
theorem tok_len (t : Nat) : tokLo t ≤ (tokB t).length ∧ (tokB t).length ≤ tokHi t := by
  unfold tokLo tokHi
  cases h : Nat.blt t 256 with
  | true => simp [tokB_lit h]
  | false =>
    rw [tokB_sym h]
    exact ⟨(Syms.ok _).lo, (Syms.ok _).hi⟩
theorem len_R : ∀ r, loR r ≤ (flat r).length ∧ (flat r).length ≤ hiR r
  | [] => by simp [loR, flat]
  | t :: r => by
    have h1 := tok_len t
    have h2 := len_R r
    simp only [loR, hiR, flat, List.length_append]
    omega

def eqN : List Nat → List Nat → Bool
  | [], [] => true
  | a :: x, b :: y => cond (Nat.beq a b) (eqN x y) false
  | _, _ => false
theorem eqN_eq : ∀ {a b : List Nat}, eqN a b = true → a = b
  | [], [], _ => rfl
  | [], _ :: _, h => by cases h
  | _ :: _, [], h => by cases h
  | a :: x, b :: y, h => by
    simp only [eqN] at h
    cases hb : Nat.beq a b with
    | true => rw [hb, cond_true] at h; rw [Nat.eq_of_beq_eq_true hb, eqN_eq h]
    | false => rw [hb] at h; cases h

/-- The classes' words on a token's bytes. -/
def tokAll (t : Nat) : Nat := cond (Nat.blt t 256) (Nat.shiftLeft 1 t) (Syms.cls (t - 256)).all
def tokFst (t : Nat) : Nat := cond (Nat.blt t 256) (Nat.shiftLeft 1 t) (Syms.cls (t - 256)).fst
def tokLst (t : Nat) : Nat := cond (Nat.blt t 256) (Nat.shiftLeft 1 t) (Syms.cls (t - 256)).lst
theorem hasBit_self (t : Nat) : hasBit (Nat.shiftLeft 1 t) t = true := by
  have h : Nat.shiftRight (Nat.shiftLeft 1 t) t = 1 := by
    show (1 <<< t) >>> t = 1
    rw [Nat.shiftLeft_eq, Nat.shiftRight_eq_div_pow, Nat.one_mul, Nat.div_self (Nat.two_pow_pos t)]
  unfold hasBit
  rw [h]
  rfl
theorem toNat_tok {t : Nat} (h : Nat.blt t 256 = true) : (UInt8.ofNat t).toNat = t := by
  have : t < 256 := Nat.le_of_ble_eq_true h
  simp
  omega
theorem tokAll_ok {t : Nat} : ∀ b ∈ tokB t, hasBit (tokAll t) b.toNat = true := by
  intro b hb
  unfold tokAll
  cases h : Nat.blt t 256 with
  | true =>
    rw [tokB_lit h, List.mem_singleton] at hb
    subst hb
    rw [toNat_tok h]
    exact hasBit_self t
  | false =>
    rw [tokB_sym h] at hb
    exact (Syms.ok _).all b hb
theorem tokFst_ok {t : Nat} {b : UInt8} (hb : (tokB t).head? = some b) : hasBit (tokFst t) b.toNat = true := by
  unfold tokFst
  cases h : Nat.blt t 256 with
  | true =>
    rw [tokB_lit h] at hb
    cases hb
    rw [toNat_tok h]
    exact hasBit_self t
  | false =>
    rw [tokB_sym h] at hb
    exact (Syms.ok _).fst b hb
theorem tokLst_ok {t : Nat} {b : UInt8} (hb : (tokB t).getLast? = some b) : hasBit (tokLst t) b.toNat = true := by
  unfold tokLst
  cases h : Nat.blt t 256 with
  | true =>
    rw [tokB_lit h] at hb
    have hb : UInt8.ofNat t = b := by simpa using hb
    subst hb
    rw [toNat_tok h]
    exact hasBit_self t
  | false =>
    rw [tokB_sym h] at hb
    exact (Syms.ok _).lst b hb

/-- The byte at a place that is reached over known bytes. -/
def ropeAt : List Nat → Nat → (AVal → Prop) → Prop
  | t :: _, 0, K => cond (Nat.blt t 256) (K (.lit (byteV (UInt8.ofNat t)))) (gd (Nat.blt 0 (Syms.cls (t - 256)).lo) (K (.ub (Syms.cls (t - 256)).fst)))
  | t :: r, n + 1, K => gd (Nat.blt t 256) (ropeAt r n K)
  | [], _, _ => False
theorem ropeAt_ok {ι : Inj} : ∀ {r : List Nat} {n : Nat} {K : AVal → Prop}, ropeAt r n K → ∃ b a, (flat r)[n]? = some b ∧ Den ι a (byteV b) ∧ K a
  | t :: r, 0, K, h => by
    simp only [ropeAt] at h
    cases ht : Nat.blt t 256 with
    | true =>
      rw [ht, cond_true] at h
      exact ⟨_, _, by simp [flat, tokB_lit ht], .lit, h⟩
    | false =>
      rw [ht, cond_false] at h
      obtain ⟨h0, hK⟩ := gd_out h
      have h0 := blt_lt h0
      have hl := (Syms.ok (t - 256)).lo
      have hw := tokB_sym ht
      cases hc : Syms.w (t - 256) with
      | nil => rw [hc] at hl; simp at hl; omega
      | cons b l =>
        refine ⟨b, _, by simp [flat, hw, hc], .ub ?_, hK⟩
        exact (Syms.ok (t - 256)).fst b (by rw [hc]; rfl)
  | t :: r, n + 1, K, h => by
    obtain ⟨ht, h⟩ := gd_out h
    obtain ⟨b, a, h1, h2, h3⟩ := ropeAt_ok (ι := ι) h
    exact ⟨b, a, by simpa [flat, tokB_lit ht] using h1, h2, h3⟩
  | [], _, _, h => h.elim

/-- Without its first bytes, known ones. -/
def dropR : List Nat → Nat → Option (List Nat)
  | r, 0 => some r
  | t :: r, n + 1 => cond (Nat.blt t 256) (dropR r n) none
  | [], _ + 1 => none
theorem dropR_ok : ∀ {r : List Nat} {n : Nat} {r' : List Nat}, dropR r n = some r' → flat r' = (flat r).drop n ∧ n ≤ (flat r).length
  | r, 0, r', h => by simp [dropR] at h; subst h; simp
  | t :: r, n + 1, r', h => by
    simp only [dropR] at h
    cases ht : Nat.blt t 256 with
    | true =>
      rw [ht, cond_true] at h
      obtain ⟨h1, h2⟩ := dropR_ok h
      simp [flat, tokB_lit ht, h1]
      omega
    | false => rw [ht] at h; cases h
  | [], _ + 1, _, h => by cases h

/-- What is behind a beginning. -/
def behindN : List Nat → List Nat → Option (List Nat)
  | [], r => some r
  | t :: p, u :: r => cond (Nat.beq t u) (behindN p r) none
  | _ :: _, [] => none
theorem behindN_ok : ∀ {p r q : List Nat}, behindN p r = some q → r = p ++ q
  | [], r, q, h => by simp [behindN] at h; simp [h]
  | t :: p, u :: r, q, h => by
    simp only [behindN] at h
    cases hb : Nat.beq t u with
    | true => rw [hb, cond_true] at h; rw [Nat.eq_of_beq_eq_true hb, behindN_ok h]; rfl
    | false => rw [hb] at h; cases h
  | _ :: _, [], _, h => by cases h

/-- Are two texts one? -/
def headNe : List Nat → List Nat → Bool
  | t :: r, u :: s => cond (Nat.blt t 256 && Nat.blt u 256) (cond (Nat.beq t u) (headNe r s) true)
    (cond (Nat.blt t 256) (Nat.blt 0 (tokLo u) && !hasBit (tokFst u) t) (cond (Nat.blt u 256) (Nat.blt 0 (tokLo t) && !hasBit (tokFst t) u) false))
  | _, _ => false
theorem head_sym {u : Nat} {r : List Nat} (h : Nat.blt 0 (tokLo u) = true) : ∃ b, (flat (u :: r)).head? = some b ∧ hasBit (tokFst u) b.toNat = true := by
  have h0 := blt_lt h
  have h1 := (tok_len u).1
  cases hc : tokB u with
  | nil => rw [hc] at h1; simp at h1; omega
  | cons b l => exact ⟨b, by simp [flat, hc], tokFst_ok (by rw [hc]; rfl)⟩
theorem headNe_ok : ∀ {a b : List Nat}, headNe a b = true → flat a ≠ flat b
  | [], _, h => by cases h
  | _ :: _, [], h => by cases h
  | t :: r, u :: s, h => by
    simp only [headNe] at h
    cases ht : Nat.blt t 256 <;> cases hu : Nat.blt u 256 <;> simp only [ht, hu, Bool.and_true, Bool.and_false, cond_true, cond_false] at h
    · cases h
    · simp only [Bool.and_eq_true, Bool.not_eq_true'] at h
      obtain ⟨h1, h2⟩ := h
      obtain ⟨b, hb, hm⟩ := head_sym (r := r) h1
      intro e
      rw [e, flat, tokB_lit hu] at hb
      cases hb
      rw [toNat_tok hu, h2] at hm
      cases hm
    · simp only [Bool.and_eq_true, Bool.not_eq_true'] at h
      obtain ⟨h1, h2⟩ := h
      obtain ⟨b, hb, hm⟩ := head_sym (r := s) h1
      intro e
      rw [← e, flat, tokB_lit ht] at hb
      cases hb
      rw [toNat_tok ht, h2] at hm
      cases hm
    · simp only [flat, tokB_lit ht, tokB_lit hu]
      cases hb : Nat.beq t u with
      | true =>
        rw [hb, cond_true] at h
        intro e
        simp only [List.cons_append, List.nil_append, List.cons.injEq] at e
        exact headNe_ok h e.2
      | false =>
        intro e
        simp only [List.cons_append, List.nil_append, List.cons.injEq] at e
        have h3 := congrArg UInt8.toNat e.1
        rw [toNat_tok ht, toNat_tok hu] at h3
        subst h3
        rw [Nat.beq_refl] at hb
        cases hb
def eqR (a b : List Nat) : Option Bool :=
  cond (eqN a b) (some true) (cond (Nat.blt (hiR a) (loR b) || (Nat.blt (hiR b) (loR a) || headNe a b)) (some false) none)
theorem eqR_ok {a b : List Nat} {r : Bool} (h : eqR a b = some r) : (flat a == flat b) = r := by
  unfold eqR at h
  cases he : eqN a b with
  | true =>
    rw [he, cond_true] at h
    cases h
    rw [eqN_eq he]
    simp
  | false =>
    rw [he, cond_false] at h
    cases hc : (Nat.blt (hiR a) (loR b) || (Nat.blt (hiR b) (loR a) || headNe a b)) with
    | false => rw [hc] at h; cases h
    | true =>
      rw [hc, cond_true] at h
      cases h
      simp only [Bool.or_eq_true] at hc
      have h1 := len_R a
      have h2 := len_R b
      have hne : flat a ≠ flat b := by
        rcases hc with h3 | h3 | h3
        · have h3 := blt_lt h3
          intro e; rw [e] at h1; omega
        · have h3 := blt_lt h3
          intro e; rw [e] at h1; omega
        · exact headNe_ok h3
      simp [hne]

/-- A length against a number. -/
def cmpLen (op : BinOp) (r : List Nat) (n : Int) : Option Bool :=
  match op with
  | .lss => cond (decide ((hiR r : Int) < n)) (some true) (cond (decide (n ≤ (loR r : Int))) (some false) none)
  | .leq => cond (decide ((hiR r : Int) ≤ n)) (some true) (cond (decide (n < (loR r : Int))) (some false) none)
  | .gtr => cond (decide (n < (loR r : Int))) (some true) (cond (decide ((hiR r : Int) ≤ n)) (some false) none)
  | .geq => cond (decide (n ≤ (loR r : Int))) (some true) (cond (decide ((hiR r : Int) < n)) (some false) none)
  | .eql => cond (decide (n < (loR r : Int)) || decide ((hiR r : Int) < n)) (some false) none
  | .neq => cond (decide (n < (loR r : Int)) || decide ((hiR r : Int) < n)) (some true) none
  | _ => none
theorem cmpLen_ok {P : Program} {w : World} {op : BinOp} {r : List Nat} {n : Int} {b : Bool} (h : cmpLen op r n = some b) : (Op.intCmp op (flat r).length n).run P w = .ok (.bool b) w := by
  have h1 := len_R r
  have two : ∀ {p q : Prop} [Decidable p] [Decidable q] {x y : Bool}, cond (decide p) (some x) (cond (decide q) (some y) none) = some b → (p ∧ x = b) ∨ (q ∧ y = b) := by
    intro p q _ _ x y hh
    by_cases hp : p
    · simp [hp] at hh; exact .inl ⟨hp, hh⟩
    · by_cases hq : q
      · simp [hp, hq] at hh; exact .inr ⟨hq, hh⟩
      · simp [hp, hq] at hh
  have one : ∀ {p q : Prop} [Decidable p] [Decidable q] {x : Bool}, cond (decide p || decide q) (some x) none = some b → (p ∨ q) ∧ x = b := by
    intro p q _ _ x hh
    by_cases hp : p ∨ q
    · have : (decide p || decide q) = true := by simpa using hp
      rw [this] at hh; cases hh; exact ⟨hp, rfl⟩
    · have : (decide p || decide q) = false := by simpa using hp
      rw [this] at hh; cases hh
  cases op <;> simp only [cmpLen] at h <;> try (cases h; done)
  · obtain ⟨h2, rfl⟩ := one h
    have hp : ((((flat r).length : Int)) == n) = false := by rw [beq_eq_false_iff_ne]; omega
    simp only [Op.intCmp, hp, Sem.run_pure]
  · obtain ⟨h2, rfl⟩ := one h
    have hp : ((((flat r).length : Int)) != n) = true := by rw [bne_iff_ne]; omega
    simp only [Op.intCmp, hp, Sem.run_pure]
  all_goals
    rcases two h with ⟨h2, rfl⟩ | ⟨h2, rfl⟩
    · simp only [Op.intCmp, Sem.run_pure, gt_iff_lt, ge_iff_le]
      congr 2
      simp only [decide_eq_true_eq]
      omega
    · simp only [Op.intCmp, Sem.run_pure, gt_iff_lt, ge_iff_le]
      congr 2
      simp only [decide_eq_false_iff_not]
      omega
end Go.Sx
