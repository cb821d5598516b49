/- A part of the proof of this claim: lemmas of its own; what is proved, and on what conditions, the last text says. -/
import Derived.Test.YtfpckklhljbelaaGreatDoorFeD
set_option linter.all false
open Go Go.Sx Go.Proofs
namespace T
variable [Syms]
def feR1 (S : List UInt8) (i : Nat) (m : Bool) : Prop :=
  br (decide (Int.ofNat (feK S (i, m)) < Int.ofNat (List.length (escF S))))
  (gd (decide (Int.ofNat (feK S (i, m)) < Int.ofNat (List.length (escF S))))
    (br (Int.ofNat (UInt8.toNat (List.getD (escF S) (feK S (i, m)) (0 : UInt8))) == Int.ofNat (7 : Nat))
      (br (decide (Int.ofNat i ≥ Int.ofNat (List.length S))) False
        (gd (decide (Int.ofNat i < Int.ofNat (List.length S)))
          (True ∧
            br (!punctI (Int.ofNat (UInt8.toNat (List.getD S i (0 : UInt8))))) False
              (br (decide (Int.ofNat (feK S (i, m)) > Int.ofNat (0 : Nat)))
                (gd
                  (decide (Int.ofNat (0 : Nat) ≤ IntKind.wrap IntKind.i64 (Int.ofNat (feK S (i, m)) - Int.ofNat (1 : Nat))) &&
                    decide (IntKind.wrap IntKind.i64 (Int.ofNat (feK S (i, m)) - Int.ofNat (1 : Nat)) < Int.ofNat (List.length (escF S))))
                  (br
                    (Int.ofNat
                        (UInt8.toNat
                          (List.getD (escF S) (Int.toNat (IntKind.wrap IntKind.i64 (Int.ofNat (feK S (i, m)) - Int.ofNat (1 : Nat)))) (0 : UInt8))) ==
                      Int.ofNat (7 : Nat))
                    False
                    (∃ (j' : Nat × Bool),
                      (j'.fst ≤ List.length S ∧ (j'.snd = true → j'.fst < List.length S ∧ isMd (List.getD S j'.fst (0 : UInt8)) = true)) ∧
                        (2 : Nat) * (List.length S - j'.fst) - Bool.toNat j'.snd < (2 : Nat) * (List.length S - i) - Bool.toNat m ∧
                          S = S ∧
                            escF S = escF S ∧
                              Value.int IntKind.i64 (Int.ofNat i) = Value.int IntKind.i64 (Int.ofNat j'.fst) ∧
                                Value.int IntKind.i64 (IntKind.wrap IntKind.i64 (Int.ofNat (feK S (i, m) + (1 : Nat)))) =
                                    Value.int IntKind.i64 (Int.ofNat (feK S j')) ∧
                                  True)))
                (∃ (j' : Nat × Bool),
                  (j'.fst ≤ List.length S ∧ (j'.snd = true → j'.fst < List.length S ∧ isMd (List.getD S j'.fst (0 : UInt8)) = true)) ∧
                    (2 : Nat) * (List.length S - j'.fst) - Bool.toNat j'.snd < (2 : Nat) * (List.length S - i) - Bool.toNat m ∧
                      S = S ∧
                        escF S = escF S ∧
                          Value.int IntKind.i64 (Int.ofNat i) = Value.int IntKind.i64 (Int.ofNat j'.fst) ∧
                            Value.int IntKind.i64 (IntKind.wrap IntKind.i64 (Int.ofNat (feK S (i, m) + (1 : Nat)))) =
                                Value.int IntKind.i64 (Int.ofNat (feK S j')) ∧
                              True)))))
      (br (decide (Int.ofNat i ≥ Int.ofNat (List.length S))) (False ∧ False)
        (gd (decide (Int.ofNat (feK S (i, m)) < Int.ofNat (List.length (escF S))))
            (gd (decide (Int.ofNat i < Int.ofNat (List.length S)))
              (br (Int.ofNat (UInt8.toNat (List.getD (escF S) (feK S (i, m)) (0 : UInt8))) != Int.ofNat (UInt8.toNat (List.getD S i (0 : UInt8)))) False
                (∃ (j' : Nat × Bool),
                  (j'.fst ≤ List.length S ∧ (j'.snd = true → j'.fst < List.length S ∧ isMd (List.getD S j'.fst (0 : UInt8)) = true)) ∧
                    (2 : Nat) * (List.length S - j'.fst) - Bool.toNat j'.snd < (2 : Nat) * (List.length S - i) - Bool.toNat m ∧
                      S = S ∧
                        escF S = escF S ∧
                          Value.int IntKind.i64 (IntKind.wrap IntKind.i64 (Int.ofNat (i + (1 : Nat)))) = Value.int IntKind.i64 (Int.ofNat j'.fst) ∧
                            Value.int IntKind.i64 (IntKind.wrap IntKind.i64 (Int.ofNat (feK S (i, m) + (1 : Nat)))) =
                                Value.int IntKind.i64 (Int.ofNat (feK S j')) ∧
                              True))) ∧
          gd (decide (Int.ofNat i < Int.ofNat (List.length S)))
            (gd (decide (Int.ofNat (feK S (i, m)) < Int.ofNat (List.length (escF S))))
              (br (Int.ofNat (UInt8.toNat (List.getD (escF S) (feK S (i, m)) (0 : UInt8))) != Int.ofNat (UInt8.toNat (List.getD S i (0 : UInt8)))) False
                (∃ (j' : Nat × Bool),
                  (j'.fst ≤ List.length S ∧ (j'.snd = true → j'.fst < List.length S ∧ isMd (List.getD S j'.fst (0 : UInt8)) = true)) ∧
                    (2 : Nat) * (List.length S - j'.fst) - Bool.toNat j'.snd < (2 : Nat) * (List.length S - i) - Bool.toNat m ∧
                      S = S ∧
                        escF S = escF S ∧
                          Value.int IntKind.i64 (IntKind.wrap IntKind.i64 (Int.ofNat (i + (1 : Nat)))) = Value.int IntKind.i64 (Int.ofNat j'.fst) ∧
                            Value.int IntKind.i64 (IntKind.wrap IntKind.i64 (Int.ofNat (feK S (i, m) + (1 : Nat)))) =
                                Value.int IntKind.i64 (Int.ofNat (feK S j')) ∧
                              True)))))))
  (∃ (x : Unit), True ∧ S = S ∧ Value.int IntKind.i64 (Int.ofNat i) = Value.int IntKind.i64 (Int.ofNat (List.length S)) ∧ True)

def feR2 (l : List UInt8) : Prop :=
  br (decide (Int.ofNat (List.length l) > Int.ofNat (2147483647 : Nat))) (AVal.lit (Value.bool true) = AVal.lit (Value.bool true))
  (True ∧
    ∀ (x : List UInt8),
      (∀ (b : UInt8), b ∈ x → b ≠ (7 : UInt8) ∧ b ≠ (0 : UInt8)) ∧ List.length x ≤ (300 : Nat) →
        ((∀ (b : UInt8), b ∈ x → b ≠ (0 : UInt8)) ∧ List.length x ≤ (1000000 : Nat)) ∧
          ∃ (S : List UInt8),
            ((∀ (b : UInt8), b ∈ S → b ≠ (7 : UInt8) ∧ b ≠ (0 : UInt8)) ∧ List.length S ≤ (300 : Nat)) ∧
              ((0 : Nat) ≤ List.length S ∧ (false = true → (0 : Nat) < List.length S ∧ isMd (List.getD S (0 : Nat) (0 : UInt8)) = true)) ∧
                (x = S ∧
                    escF x = escF S ∧
                      Value.int IntKind.i64 (Int.ofNat (0 : Nat)) = Value.int IntKind.i64 (Int.ofNat (0 : Nat)) ∧
                        Value.int IntKind.i64 (Int.ofNat (0 : Nat)) = Value.int IntKind.i64 (Int.ofNat (0 : Nat)) ∧ True) ∧
                  ∀ (x : Unit),
                    True →
                      br (Int.ofNat (List.length S) == Int.ofNat (List.length S)) (True ∧ AVal.lit (Value.bool true) = AVal.lit (Value.bool true))
                        (AVal.lit (Value.bool false) = AVal.lit (Value.bool true)))

def puR (n : Int) : Prop :=
  br (decide (n ≥ Int.ofNat (33 : Nat)))
  (br (decide (n ≤ Int.ofNat (47 : Nat))) (AVal.lit (Value.bool true) = AVal.lit (Value.bool (punctI n)))
    (br (decide (n ≥ Int.ofNat (58 : Nat)))
      (br (decide (n ≤ Int.ofNat (64 : Nat))) (AVal.lit (Value.bool true) = AVal.lit (Value.bool (punctI n)))
        (br (decide (n ≥ Int.ofNat (91 : Nat)))
          (br (decide (n ≤ Int.ofNat (96 : Nat))) (AVal.lit (Value.bool true) = AVal.lit (Value.bool (punctI n)))
            (br (decide (n ≥ Int.ofNat (123 : Nat))) (AVal.lit (Value.bool (decide (n ≤ Int.ofNat (126 : Nat)))) = AVal.lit (Value.bool (punctI n)))
              (AVal.lit (Value.bool false) = AVal.lit (Value.bool (punctI n)))))
          (br (decide (n ≥ Int.ofNat (123 : Nat))) (AVal.lit (Value.bool (decide (n ≤ Int.ofNat (126 : Nat)))) = AVal.lit (Value.bool (punctI n)))
            (AVal.lit (Value.bool false) = AVal.lit (Value.bool (punctI n))))))
      (br (decide (n ≥ Int.ofNat (91 : Nat)))
        (br (decide (n ≤ Int.ofNat (96 : Nat))) (AVal.lit (Value.bool true) = AVal.lit (Value.bool (punctI n)))
          (br (decide (n ≥ Int.ofNat (123 : Nat))) (AVal.lit (Value.bool (decide (n ≤ Int.ofNat (126 : Nat)))) = AVal.lit (Value.bool (punctI n)))
            (AVal.lit (Value.bool false) = AVal.lit (Value.bool (punctI n)))))
        (br (decide (n ≥ Int.ofNat (123 : Nat))) (AVal.lit (Value.bool (decide (n ≤ Int.ofNat (126 : Nat)))) = AVal.lit (Value.bool (punctI n)))
          (AVal.lit (Value.bool false) = AVal.lit (Value.bool (punctI n)))))))
  (br (decide (n ≥ Int.ofNat (58 : Nat)))
    (br (decide (n ≤ Int.ofNat (64 : Nat))) (AVal.lit (Value.bool true) = AVal.lit (Value.bool (punctI n)))
      (br (decide (n ≥ Int.ofNat (91 : Nat)))
        (br (decide (n ≤ Int.ofNat (96 : Nat))) (AVal.lit (Value.bool true) = AVal.lit (Value.bool (punctI n)))
          (br (decide (n ≥ Int.ofNat (123 : Nat))) (AVal.lit (Value.bool (decide (n ≤ Int.ofNat (126 : Nat)))) = AVal.lit (Value.bool (punctI n)))
            (AVal.lit (Value.bool false) = AVal.lit (Value.bool (punctI n)))))
        (br (decide (n ≥ Int.ofNat (123 : Nat))) (AVal.lit (Value.bool (decide (n ≤ Int.ofNat (126 : Nat)))) = AVal.lit (Value.bool (punctI n)))
          (AVal.lit (Value.bool false) = AVal.lit (Value.bool (punctI n))))))
    (br (decide (n ≥ Int.ofNat (91 : Nat)))
      (br (decide (n ≤ Int.ofNat (96 : Nat))) (AVal.lit (Value.bool true) = AVal.lit (Value.bool (punctI n)))
        (br (decide (n ≥ Int.ofNat (123 : Nat))) (AVal.lit (Value.bool (decide (n ≤ Int.ofNat (126 : Nat)))) = AVal.lit (Value.bool (punctI n)))
          (AVal.lit (Value.bool false) = AVal.lit (Value.bool (punctI n)))))
      (br (decide (n ≥ Int.ofNat (123 : Nat))) (AVal.lit (Value.bool (decide (n ≤ Int.ofNat (126 : Nat)))) = AVal.lit (Value.bool (punctI n)))
        (AVal.lit (Value.bool false) = AVal.lit (Value.bool (punctI n))))))
theorem esc1_ne (b : UInt8) : 1 ≤ (esc1 b).length := by unfold esc1; cases isMd b <;> simp
theorem escF_split (S : List UInt8) (i : Nat) : escF S = escF (S.take i) ++ escF (S.drop i) := by
  rw [← escF_app, List.take_append_drop]
theorem fe_at {S : List UInt8} {i : Nat} (hi : i < S.length) : escF S = escF (S.take i) ++ (esc1 (S.getD i 0) ++ escF (S.drop (i + 1))) := by
  rw [← List.append_assoc, ← escF_step hi, ← escF_split]
theorem getD_right {A B : List UInt8} {k j : Nat} (h : k = A.length + j) : (A ++ B).getD k 0 = B.getD j 0 := by
  subst h
  simp [List.getD_eq_getElem?_getD, List.getElem?_append_right]
theorem getD_left {A B : List UInt8} {k : Nat} (h : k < A.length) : (A ++ B).getD k 0 = A.getD k 0 := by
  simp [List.getD_eq_getElem?_getD, List.getElem?_append_left h]
theorem fe_first {S : List UInt8} {i : Nat} (hi : i < S.length) : (escF S).getD (feK S (i, false)) 0 = cond (isMd (S.getD i 0)) 7 (S.getD i 0) := by
  rw [fe_at hi, show feK S (i, false) = (escF (S.take i)).length + 0 from rfl, getD_right rfl]
  unfold esc1
  cases isMd (S.getD i 0) <;> rfl
theorem fe_second {S : List UInt8} {i : Nat} (hi : i < S.length) (hm : isMd (S.getD i 0) = true) : (escF S).getD (feK S (i, true)) 0 = S.getD i 0 := by
  rw [fe_at hi, show feK S (i, true) = (escF (S.take i)).length + 1 from rfl, getD_right rfl]
  simp only [esc1, hm, cond_true]
  rfl
theorem fe_len {S : List UInt8} {i : Nat} (hi : i < S.length) : feK S (i, false) + (esc1 (S.getD i 0)).length = feK S (i + 1, false) ∧ feK S (i + 1, false) ≤ (escF S).length := by
  have h := escF_step hi
  have h2 := congrArg List.length h
  have h3 := congrArg List.length (escF_split S (i + 1))
  rw [List.length_append] at h2 h3
  simp only [feK, Bool.toNat_false]
  omega
theorem fe_prev {S : List UInt8} {i : Nat} (hi : i ≤ S.length) (h7 : ∀ b ∈ S, b ≠ 7) (hk : 0 < feK S (i, false)) : (escF S).getD (feK S (i, false) - 1) 0 ≠ 7 := by
  cases i with
  | zero => simp [feK, escF] at hk
  | succ i =>
    have hi' : i < S.length := hi
    have hl := (fe_len hi').1
    have hb : S.getD i 0 ≠ 7 := h7 _ (by simp [List.getD_eq_getElem?_getD, hi'])
    rw [fe_at hi']
    unfold feK at *
    simp only [Bool.toNat_false, Nat.add_zero] at *
    have e : esc1 (S.getD i 0) = [7, S.getD i 0] ∨ esc1 (S.getD i 0) = [S.getD i 0] := by
      unfold esc1
      cases isMd (S.getD i 0)
      · exact .inr rfl
      · exact .inl rfl
    rcases e with e | e
    · rw [e] at hl ⊢
      rw [getD_right (j := 1) (by rw [← hl]; simp)]
      exact hb
    · rw [e] at hl ⊢
      rw [getD_right (j := 0) (by rw [← hl]; simp)]
      exact hb
theorem md_punct {b : UInt8} (h : isMd b = true) : punctI (Int.ofNat b.toNat) = true := by
  simp only [isMd, mdL, List.contains_eq_mem, decide_eq_true_eq] at h
  simp at h
  rcases h with h | h | h | h | h | h | h | h | h | h | h | h | h | h | h | h | h | h | h | h <;> rw [h] <;> rfl
theorem u8_eq {a b : UInt8} (h : Int.ofNat a.toNat = Int.ofNat b.toNat) : a = b := UInt8.toNat_inj.1 (Int.ofNat.inj h)
theorem wrap_sub {k : Nat} (h : k < 10000000) (h0 : 0 < k) : IntKind.wrap IntKind.i64 (Int.ofNat k - Int.ofNat 1) = Int.ofNat (k - 1) := by
  have : Int.ofNat k - Int.ofNat 1 = Int.ofNat (k - 1) := by
    show (k : Int) - 1 = ((k - 1 : Nat) : Int); omega
  rw [this, wrap_ok (by omega)]
theorem fe_r1 (S : List UInt8) (h7 : Ok7 S) (i : Nat) (m : Bool) (h1 : i ≤ S.length) (h2 : m = true → i < S.length ∧ isMd (S.getD i 0) = true) : feR1 S i m := by
  have hT := escF_le S
  have hS : S.length ≤ 300 := h7.2
  have hk0 : feK S (i, m) ≤ 2 * S.length + 1 := by
    have h4 := escF_le (S.take i)
    rw [List.length_take] at h4
    have : m.toNat ≤ 1 := by cases m <;> simp
    unfold feK
    show (escF (S.take i)).length + m.toNat ≤ _
    omega
  unfold feR1
  simp only [gd_iff, br_iff, Bool.and_eq_true, decide_eq_true_eq, decide_eq_false_iff_not, and_true, true_and, Nat.le_refl, take_len, beq_iff_eq, bne_iff_ne, Bool.not_eq_true', beq_eq_false_iff_ne, and_self, and_false]
  have hmem : ∀ {j : Nat}, j < S.length → S.getD j 0 ∈ S := fun {j} hj => by
    simp [List.getD_eq_getElem?_getD, hj]
  refine ⟨fun hk => ⟨hk, ?_, ?_⟩, fun hk => ?_⟩
  · intro he
    have he : (escF S).getD (feK S (i, m)) 0 = 7 := u8_eq he
    cases m with
    | true =>
      obtain ⟨hi, hm⟩ := h2 rfl
      rw [fe_second hi hm] at he
      exact absurd he (h7.1 _ (hmem hi)).1
    | false =>
      have hi : i < S.length := by
        rcases Nat.lt_or_ge i S.length with h | h
        · exact h
        · have hk : Int.ofNat (feK S (i, false)) < Int.ofNat (escF S).length := hk
          have := Int.ofNat_lt.1 hk
          have e : S.take i = S := List.take_of_length_le h
          simp [feK, e] at this
      have hmd : isMd (S.getD i 0) = true := by
        rw [fe_first hi] at he
        cases hm : isMd (S.getD i 0) with
        | true => rfl
        | false => rw [hm] at he; exact absurd he (h7.1 _ (hmem hi)).1
      have hstep : ∃ (j' : Nat × Bool), (j'.fst ≤ S.length ∧ (j'.snd = true → j'.fst < S.length ∧ isMd (S.getD j'.fst 0) = true)) ∧ 2 * (S.length - j'.fst) - j'.snd.toNat < 2 * (S.length - i) - Bool.toNat false ∧ Value.int IntKind.i64 (Int.ofNat i) = Value.int IntKind.i64 (Int.ofNat j'.fst) ∧ Value.int IntKind.i64 (IntKind.wrap IntKind.i64 (Int.ofNat (feK S (i, false) + 1))) = Value.int IntKind.i64 (Int.ofNat (feK S j')) := by
        refine ⟨(i, true), ⟨h1, fun _ => ⟨hi, hmd⟩⟩, ?_, rfl, ?_⟩
        · show 2 * (S.length - i) - 1 < 2 * (S.length - i) - 0; omega
        · rw [wrap_ok (by omega)]; rfl
      refine ⟨fun h => ?_, fun _ => ⟨Int.ofNat_lt.2 hi, fun h => ?_, fun _ => ⟨fun hp => ?_, fun _ => hstep⟩⟩⟩
      · have := Int.ofNat_le.1 h; omega
      · rw [md_punct hmd] at h; cases h
      · have hp : 0 < feK S (i, false) := Int.ofNat_lt.1 hp
        have hk' := Int.ofNat_lt.1 hk
        rw [wrap_sub (by omega) hp]
        refine ⟨⟨Int.ofNat_le.2 (Nat.zero_le _), Int.ofNat_lt.2 (by omega)⟩, fun h => ?_, fun _ => hstep⟩
        exact fe_prev h1 (fun b hb => (h7.1 b hb).1) hp (u8_eq h)
  · intro hne
    have hne : (escF S).getD (feK S (i, m)) 0 ≠ 7 := fun e => hne (by rw [e]; rfl)
    have hi : i < S.length := by
      cases m with
      | true => exact (h2 rfl).1
      | false =>
        rcases Nat.lt_or_ge i S.length with h | h
        · exact h
        · have hk : Int.ofNat (feK S (i, false)) < Int.ofNat (escF S).length := hk
          have := Int.ofNat_lt.1 hk
          have e : S.take i = S := List.take_of_length_le h
          simp [feK, e] at this
    have heq : (escF S).getD (feK S (i, m)) 0 = S.getD i 0 ∧ feK S (i, m) + 1 = feK S (i + 1, false) := by
      have hl := (fe_len hi).1
      cases m with
      | true =>
        obtain ⟨_, hm⟩ := h2 rfl
        refine ⟨fe_second hi hm, ?_⟩
        have e : (esc1 (S.getD i 0)).length = 2 := by simp only [esc1, hm, cond_true]; rfl
        rw [e] at hl
        exact hl
      | false =>
        have hm : isMd (S.getD i 0) = false := by
          cases hm : isMd (S.getD i 0) with
          | false => rfl
          | true => rw [fe_first hi, hm] at hne; exact absurd rfl hne
        have e : (esc1 (S.getD i 0)).length = 1 := by simp only [esc1, hm, cond_false]; rfl
        rw [e] at hl
        exact ⟨by rw [fe_first hi, hm]; rfl, hl⟩
    have hstep : ∃ (j' : Nat × Bool), (j'.fst ≤ S.length ∧ (j'.snd = true → j'.fst < S.length ∧ isMd (S.getD j'.fst 0) = true)) ∧ 2 * (S.length - j'.fst) - j'.snd.toNat < 2 * (S.length - i) - m.toNat ∧ Value.int IntKind.i64 (IntKind.wrap IntKind.i64 (Int.ofNat (i + 1))) = Value.int IntKind.i64 (Int.ofNat j'.fst) ∧ Value.int IntKind.i64 (IntKind.wrap IntKind.i64 (Int.ofNat (feK S (i, m) + 1))) = Value.int IntKind.i64 (Int.ofNat (feK S j')) := by
      refine ⟨(i + 1, false), ⟨hi, fun h => by cases h⟩, ?_, ?_, ?_⟩
      · have : m.toNat ≤ 1 := by cases m <;> simp
        show 2 * (S.length - (i + 1)) - 0 < 2 * (S.length - i) - m.toNat
        omega
      · rw [wrap_ok (by omega)]
      · rw [wrap_ok (by omega), heq.2]
    refine ⟨fun h => ?_, fun _ => ?_⟩
    · have := Int.ofNat_le.1 h; omega
    · refine ⟨⟨Int.ofNat_lt.1 hk |> fun _ => hk, Int.ofNat_lt.2 hi, fun h => absurd (by rw [heq.1]) h, fun _ => hstep⟩, ⟨Int.ofNat_lt.2 hi, hk, fun h => absurd (by rw [heq.1]) h, fun _ => hstep⟩⟩
  · refine ⟨(), ?_⟩
    have hk' : ¬ feK S (i, m) < (escF S).length := fun h => hk (Int.ofNat_lt.2 h)
    rcases Nat.lt_or_ge i S.length with h | h
    · have hl := fe_len h
      have : feK S (i, m) = feK S (i, false) + m.toNat := rfl
      have h1 := esc1_ne (S.getD i 0)
      cases m with
      | false => rw [this] at hk'; simp at hk'; omega
      | true =>
        obtain ⟨_, hm⟩ := h2 rfl
        have e : (esc1 (S.getD i 0)).length = 2 := by simp only [esc1, hm, cond_true]; rfl
        rw [this] at hk'; simp at hk'; omega
    · have : i = S.length := by omega
      rw [this]
theorem fe_r2 (l : List UInt8) : feR2 l := by
  unfold feR2
  simp only [gd_iff, br_iff, true_and, and_true, implies_true]
  refine fun _ x hx => ⟨⟨fun b hb => (hx.1 b hb).2, by have := hx.2; omega⟩, x, hx, ⟨Nat.zero_le _, fun h => by cases h⟩, ⟨rfl, rfl⟩, fun _ _ => fun h => absurd (beq_self_eq_true (Int.ofNat x.length)) (by rw [h]; exact Bool.false_ne_true)⟩
theorem pu_r (n : Int) : puR n := by
  unfold puR
  simp only [br_iff, decide_eq_true_eq, decide_eq_false_iff_not, AVal.lit.injEq, Value.bool.injEq]
  have e : punctI n = decide ((33 ≤ n ∧ n ≤ 47) ∨ (58 ≤ n ∧ n ≤ 64) ∨ (91 ≤ n ∧ n ≤ 96) ∨ (123 ≤ n ∧ n ≤ 126)) := by
    simp [punctI, Bool.or_assoc]
  rw [e]
  have e33 : Int.ofNat 33 = 33 := rfl
  have e47 : Int.ofNat 47 = 47 := rfl
  have e58 : Int.ofNat 58 = 58 := rfl
  have e64 : Int.ofNat 64 = 64 := rfl
  have e91 : Int.ofNat 91 = 91 := rfl
  have e96 : Int.ofNat 96 = 96 := rfl
  have e123 : Int.ofNat 123 = 123 := rfl
  have e126 : Int.ofNat 126 = 126 := rfl
  simp only [e33, e47, e58, e64, e91, e96, e123, e126]
  repeat' (first | intro _ | constructor)
  all_goals first
    | (symm; rw [decide_eq_true_eq]; omega)
    | (symm; rw [decide_eq_false_iff_not]; omega)
    | (rw [decide_eq_decide]; omega)
set_option maxRecDepth 100000 in
theorem fe_body (htab : TabOk Tryz.prog feTabs) (S : List UInt8) (h7 : Ok7 S) : (feD S).Body Tryz.prog (sub (bodyOf Tryz.f3) [0, 0, 1, 0, 1, 1, 1, 1]) := by
  rintro ⟨i, m⟩ ⟨h1, h2⟩
  refine exW_ok (root := bodyOf Tryz.f3) ftOk htab LTok.nil 100 (p := [0, 0, 1, 0, 1, 1, 1, 1]) ?_ rfl
  refine of_eq (q := feR1 S i m) (by kernel_rfl) ?_
  exact fe_r1 S h7 i m h1 h2
set_option maxRecDepth 100000 in
theorem punct_spec : SpecOk Tryz.prog 7 punctS := by
  refine specF_ok ⟨Tryz.f7, by kernel_rfl, rfl, by kernel_rfl⟩ (fun _ => rfl) fun args n ha _ => ?_
  rw [decI_ok ha]
  refine ⟨rfl, fnW (b := bodyOf Tryz.f7) (fn := Tryz.f7) ftOk nofOk (LT := []) 100 LTok.nil (by kernel_rfl) (by kernel_rfl) rfl ?_⟩
  refine of_eq (q := puR n) (by kernel_rfl) ?_
  exact pu_r n
set_option maxRecDepth 100000 in
/-- FnEscape answers true. -/
theorem fe_calls (htab : TabOk Tryz.prog feTabs) (l : List UInt8) : ∀ (w0 : World) (F0 : Fp) (ι : Inj) (w : World) (vs : List Value), Inv w0 F0 ι H0 w → DenL ι [.str l] vs → Calls Tryz.prog 3 vs.toArray w (PostV w0 F0 noι trueK) := by
  refine fnW (b := bodyOf Tryz.f3) (fn := Tryz.f3) ftOk htab (LT := [([0, 1, 0, 1, 1, 1, 1], fun fr H K => ∃ S, Ok7 S ∧ (feD S).at (0, false) fr H K)]) 100 (LTok.cons (fun fr H K hk => by obtain ⟨S, h7, hk⟩ := hk; exact LoopD.ok (fe_body htab S h7) hk) LTok.nil) (by kernel_rfl) (by kernel_rfl) rfl ?_
  refine of_eq (q := feR2 l) (by kernel_rfl) ?_
  exact fe_r2 l
end T
