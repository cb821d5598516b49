/- A part of the proof of this claim: lemmas of its own; what is proved, and on what conditions, the last text says. -/
import Derived.WalkKit
set_option linter.all false
namespace Go.Sx

/-! ### finite maps from numbers, for the kernel: a binary tree; 0 at the root, odd numbers to the left, even ones to the right -/
inductive Tr (α : Type) where
  | nil
  | node (v : Option α) (l r : Tr α)

def Tr.get {α : Type} : Tr α → Nat → Option α
  | .nil, _ => none
  | .node v _ _, 0 => v
  | .node _ l r, t + 1 => cond (Nat.beq (t % 2) 0) (l.get (t / 2)) (r.get (t / 2))

/-- `n`: how deep at most. -/
def Tr.put {α : Type} : Nat → Tr α → Nat → Option α → Tr α
  | 0, s, _, _ => s
  | n + 1, .nil, 0, x => .node x .nil .nil
  | n + 1, .nil, t + 1, x => cond (Nat.beq (t % 2) 0) (.node none (Tr.put n .nil (t / 2) x) .nil) (.node none .nil (Tr.put n .nil (t / 2) x))
  | n + 1, .node _ l r, 0, x => .node x l r
  | n + 1, .node v l r, t + 1, x => cond (Nat.beq (t % 2) 0) (.node v (Tr.put n l (t / 2) x) r) (.node v l (Tr.put n r (t / 2) x))

theorem beq_false {i j : Nat} (h : i ≠ j) : Nat.beq i j = false := by
  cases hb : Nat.beq i j with
  | false => rfl
  | true => exact absurd (Nat.eq_of_beq_eq_true hb) h
theorem beq_self (i : Nat) : Nat.beq i i = true := Nat.beq_refl i

theorem Tr.get_nil {α : Type} (t : Nat) : (Tr.nil : Tr α).get t = none := by cases t <;> rfl
theorem Tr.get_put {α : Type} : ∀ (n : Nat) (s : Tr α) (t : Nat) (x : Option α) (j : Nat), t + 1 < 2 ^ n → (Tr.put n s t x).get j = if j = t then x else s.get j := by
  intro n
  induction n with
  | zero => intro s t x j h; simp at h
  | succ n ih =>
    intro s t x j h
    have hb : ∀ t, t + 1 + 1 < 2 ^ (n + 1) → t / 2 + 1 < 2 ^ n := fun t ht => by rw [Nat.pow_succ] at ht; omega
    cases t with
    | zero =>
      cases s with
      | nil => cases j with
        | zero => simp [Tr.put, Tr.get]
        | succ j => simp [Tr.put, Tr.get, Tr.get_nil]
      | node v l r => cases j with
        | zero => simp [Tr.put, Tr.get]
        | succ j => simp [Tr.put, Tr.get]
    | succ t =>
      have hh := hb t h
      cases hm : Nat.beq (t % 2) 0 with
      | true =>
        have hm' : t % 2 = 0 := Nat.eq_of_beq_eq_true hm
        cases s with
        | nil => cases j with
          | zero => simp [Tr.put, hm, Tr.get]
          | succ j =>
            simp only [Tr.put, hm, cond_true, Tr.get, Tr.get_nil]
            cases hj : Nat.beq (j % 2) 0 with
            | true =>
              have hj' : j % 2 = 0 := Nat.eq_of_beq_eq_true hj
              simp only [cond_true, ih _ _ _ _ hh, Tr.get_nil]
              by_cases e : j = t
              · subst e; simp
              · rw [if_neg (by omega), if_neg (by omega)]
            | false =>
              have hj' : j % 2 ≠ 0 := fun e => by rw [e] at hj; cases hj
              simp only [cond_false]
              rw [if_neg (by intro e; apply hj'; have : j = t := by omega
                             rw [this]; exact hm')]
        | node v l r => cases j with
          | zero => simp [Tr.put, hm, Tr.get]
          | succ j =>
            simp only [Tr.put, hm, cond_true, Tr.get]
            cases hj : Nat.beq (j % 2) 0 with
            | true =>
              have hj' : j % 2 = 0 := Nat.eq_of_beq_eq_true hj
              simp only [cond_true, ih _ _ _ _ hh]
              by_cases e : j = t
              · subst e; simp
              · rw [if_neg (by omega), if_neg (by omega)]
            | false =>
              have hj' : j % 2 ≠ 0 := fun e => by rw [e] at hj; cases hj
              simp only [cond_false]
              rw [if_neg (by intro e; apply hj'; have : j = t := by omega
                             rw [this]; exact hm')]
      | false =>
        have hm' : t % 2 ≠ 0 := fun e => by rw [e] at hm; cases hm
        cases s with
        | nil => cases j with
          | zero => simp [Tr.put, hm, Tr.get]
          | succ j =>
            simp only [Tr.put, hm, cond_false, Tr.get, Tr.get_nil]
            cases hj : Nat.beq (j % 2) 0 with
            | true =>
              have hj' : j % 2 = 0 := Nat.eq_of_beq_eq_true hj
              simp only [cond_true]
              rw [if_neg (by intro e; apply hm'; have : j = t := by omega
                             rw [← this]; exact hj')]
            | false =>
              have hj' : j % 2 ≠ 0 := fun e => by rw [e] at hj; cases hj
              simp only [cond_false, ih _ _ _ _ hh, Tr.get_nil]
              by_cases e : j = t
              · subst e; simp
              · rw [if_neg (by omega), if_neg (by omega)]
        | node v l r => cases j with
          | zero => simp [Tr.put, hm, Tr.get]
          | succ j =>
            simp only [Tr.put, hm, cond_false, Tr.get]
            cases hj : Nat.beq (j % 2) 0 with
            | true =>
              have hj' : j % 2 = 0 := Nat.eq_of_beq_eq_true hj
              simp only [cond_true]
              rw [if_neg (by intro e; apply hm'; have : j = t := by omega
                             rw [← this]; exact hj')]
            | false =>
              have hj' : j % 2 ≠ 0 := fun e => by rw [e] at hj; cases hj
              simp only [cond_false, ih _ _ _ _ hh]
              by_cases e : j = t
              · subst e; simp
              · rw [if_neg (by omega), if_neg (by omega)]
def Tr.set {α : Type} (s : Tr α) (t : Nat) (x : Option α) : Tr α := Tr.put (Nat.succ (Nat.succ t)) s t x
theorem Tr.get_set {α : Type} (s : Tr α) (t : Nat) (x : Option α) (j : Nat) : (s.set t x).get j = if j = t then x else s.get j := by
  refine Tr.get_put _ s t x j ?_
  have := @Nat.lt_two_pow_self (t + 1)
  rw [Nat.pow_succ]
  omega
end Go.Sx
