/- A part of the proof of this claim: lemmas of its own; what is proved, and on what conditions, the last text says. -/
import Derived.Test.YtfpckklhljbelaaGreatDoorCutD
set_option linter.all false
open Go Go.Sx Go.Proofs
namespace T
variable [Syms]
def cutR1 (l : List UInt8) (k : Nat) (out : List UInt8) : Prop :=
  br (Nat.blt k (List.length (List.take (300 : Nat) l)))
  (gd (decide (Int.ofNat k < Int.ofNat (List.length l)))
    (br (Int.ofNat (UInt8.toNat (List.getD l k (0 : UInt8))) != Int.ofNat (7 : Nat))
      (gd (decide (Int.ofNat k < Int.ofNat (List.length l)))
        (br (Int.ofNat (UInt8.toNat (List.getD l k (0 : UInt8))) != Int.ofNat (0 : Nat))
          (gd (decide (Int.ofNat k < Int.ofNat (List.length l)))
            (gd (decide (Int.ofNat (UInt8.toNat (List.getD l k (0 : UInt8))) < Int.ofNat (256 : Nat)) && true && true)
              (gd (Nat.ble (List.length out) (List.length out) && (Nat.ble (List.length out + (1 : Nat)) (140737488355328 : Nat) && true))
                (∃ (j' : Nat × List UInt8),
                  (((∀ (b : UInt8), b ∈ j'.snd → b ≠ (7 : UInt8) ∧ b ≠ (0 : UInt8)) ∧ List.length j'.snd ≤ (300 : Nat)) ∧ List.length j'.snd ≤ j'.fst) ∧
                    List.length l - j'.fst < List.length l - k ∧
                      l = l ∧
                        (0 : Nat) = (0 : Nat) ∧
                          List.length out + (1 : Nat) = List.length j'.snd ∧
                            (0 : Nat) = (0 : Nat) ∧
                              List.take (List.length out) out ++ [UInt8.ofNat (UInt8.toNat (List.getD l k (0 : UInt8)))] = j'.snd ∧
                                List.take (300 : Nat) l = List.take (300 : Nat) l ∧
                                  k + (Utf8.decode { data := { toList := List.take (300 : Nat) l } } k).snd = j'.fst ∧ True))))
          (∃ (j' : Nat × List UInt8),
            (((∀ (b : UInt8), b ∈ j'.snd → b ≠ (7 : UInt8) ∧ b ≠ (0 : UInt8)) ∧ List.length j'.snd ≤ (300 : Nat)) ∧ List.length j'.snd ≤ j'.fst) ∧
              List.length l - j'.fst < List.length l - k ∧
                l = l ∧
                  (0 : Nat) = (0 : Nat) ∧
                    List.length out = List.length j'.snd ∧
                      (0 : Nat) = (0 : Nat) ∧
                        out = j'.snd ∧
                          List.take (300 : Nat) l = List.take (300 : Nat) l ∧
                            k + (Utf8.decode { data := { toList := List.take (300 : Nat) l } } k).snd = j'.fst ∧ True)))
      (∃ (j' : Nat × List UInt8),
        (((∀ (b : UInt8), b ∈ j'.snd → b ≠ (7 : UInt8) ∧ b ≠ (0 : UInt8)) ∧ List.length j'.snd ≤ (300 : Nat)) ∧ List.length j'.snd ≤ j'.fst) ∧
          List.length l - j'.fst < List.length l - k ∧
            l = l ∧
              (0 : Nat) = (0 : Nat) ∧
                List.length out = List.length j'.snd ∧
                  (0 : Nat) = (0 : Nat) ∧
                    out = j'.snd ∧
                      List.take (300 : Nat) l = List.take (300 : Nat) l ∧
                        k + (Utf8.decode { data := { toList := List.take (300 : Nat) l } } k).snd = j'.fst ∧ True)))
  (∃ (x : List UInt8),
    ((∀ (b : UInt8), b ∈ x → b ≠ (7 : UInt8) ∧ b ≠ (0 : UInt8)) ∧ List.length x ≤ (300 : Nat)) ∧
      (0 : Nat) = (0 : Nat) ∧ List.length out = List.length x ∧ out = x ∧ True)

def cutR2 (l : List UInt8) : Prop :=
  gd
  (decide (Int.ofNat (0 : Nat) ≤ bif decide (Int.ofNat (300 : Nat) < Int.ofNat (List.length l)) then Int.ofNat (300 : Nat) else Int.ofNat (List.length l)) &&
    decide
      ((bif decide (Int.ofNat (300 : Nat) < Int.ofNat (List.length l)) then Int.ofNat (300 : Nat) else Int.ofNat (List.length l)) ≤ Int.ofNat (List.length l)))
  ((((∀ (b : UInt8), b ∈ [] → b ≠ (7 : UInt8) ∧ b ≠ (0 : UInt8)) ∧ (0 : Nat) ≤ (300 : Nat)) ∧ (0 : Nat) ≤ (0 : Nat)) ∧
    (l = l ∧
        (0 : Nat) = (0 : Nat) ∧
          (0 : Nat) = (0 : Nat) ∧
            (0 : Nat) = (0 : Nat) ∧
              ([] : List UInt8) = [] ∧
                (0 : Nat) ≤ (0 : Nat) ∧
                  List.take
                        (Int.toNat (bif decide (Int.ofNat (300 : Nat) < Int.ofNat (List.length l)) then Int.ofNat (300 : Nat) else Int.ofNat (List.length l)))
                        l =
                      List.take (300 : Nat) l ∧
                    (0 : Nat) = (0 : Nat) ∧ True) ∧
      ∀ (x : List UInt8),
        (∀ (b : UInt8), b ∈ x → b ≠ (7 : UInt8) ∧ b ≠ (0 : UInt8)) ∧ List.length x ≤ (300 : Nat) →
          gd (Nat.ble ((0 : Nat) + List.length x) (List.length x))
            (∃ (x_1 : List UInt8),
              ((∀ (b : UInt8), b ∈ x_1 → b ≠ (7 : UInt8) ∧ b ≠ (0 : UInt8)) ∧ List.length x_1 ≤ (300 : Nat)) ∧
                AVal.str (List.take (List.length x) x) = AVal.str x_1))
theorem dec_pos (s : ByteArray) (pos : Nat) : 1 ≤ (Utf8.decode s pos).2 := by
  simp only [Utf8.decode]
  repeat' split
  all_goals simp_all [Utf8.runeError]
theorem take_id {α : Type} (l : List α) : List.take l.length l = l := List.take_length
theorem cut_r1 (l : List UInt8) (k : Nat) (out : List UInt8) (h1 : ∀ b ∈ out, b ≠ 7 ∧ b ≠ 0) (h2 : out.length ≤ 300) (h3 : out.length ≤ k) : cutR1 l k out := by
  have hw := dec_pos { data := { toList := List.take 300 l } } k
  unfold cutR1
  simp only [gd_iff, br_iff, blt_iff, blt_iff', ble_iff, Bool.and_eq_true, decide_eq_true_eq, and_true, List.length_take, take_id, true_and, Nat.le_refl]
  refine ⟨fun hk => ⟨by simp; omega, fun h7 => ⟨by simp; omega, fun h0 => ⟨by simp; omega, ?_, by omega, ?_⟩, fun h0 => ?_⟩, fun h7 => ?_⟩, fun hk => ⟨out, ⟨h1, h2⟩, rfl, rfl⟩⟩
  · exact Int.ofNat_lt.2 (UInt8.toNat_lt _)
  · refine ⟨(_, out ++ [UInt8.ofNat (l.getD k 0).toNat]), ⟨⟨?_, by simp; omega⟩, by simp; omega⟩, ?_, by simp, rfl, rfl⟩
    · intro b hb
      rcases List.mem_append.1 hb with hb | hb
      · exact h1 b hb
      · rw [List.mem_singleton, UInt8.ofNat_toNat] at hb
        subst hb
        refine ⟨fun e => ?_, fun e => ?_⟩
        · rw [e] at h7; exact absurd h7 (by decide)
        · rw [e] at h0; exact absurd h0 (by decide)
    · simp; omega
  · exact ⟨(_, out), ⟨⟨h1, h2⟩, by simp; omega⟩, by simp; omega, rfl, rfl, rfl⟩
  · exact ⟨(_, out), ⟨⟨h1, h2⟩, by simp; omega⟩, by simp; omega, rfl, rfl, rfl⟩
theorem cut_body (l : List UInt8) : (cutD l).Body Tryz.prog (sub (bodyOf Tryz.f5) [0, 0, 1, 0, 1, 1]) := by
  rintro ⟨k, out⟩ ⟨⟨h1, h2⟩, h3⟩
  refine exW_ok (root := bodyOf Tryz.f5) ftOk nofOk LTok.nil 100 (p := [0, 0, 1, 0, 1, 1]) ?_ rfl
  refine of_eq (q := cutR1 l k out) (by kernel_rfl) ?_
  exact cut_r1 l k out h1 h2 h3
theorem cut_r2 (l : List UInt8) : cutR2 l := by
  unfold cutR2
  simp only [gd_iff, ble_iff, Bool.and_eq_true, decide_eq_true_eq, and_true, true_and, take_id]
  have e : (Int.toNat (bif decide (Int.ofNat (300 : Nat) < Int.ofNat (List.length l)) then Int.ofNat (300 : Nat) else Int.ofNat (List.length l))) = min 300 l.length := by
    by_cases h : 300 < l.length
    · have : Int.ofNat 300 < Int.ofNat l.length := Int.ofNat_lt.2 h
      simp only [this, decide_true, cond_true]; show 300 = _; omega
    · have : ¬ Int.ofNat 300 < Int.ofNat l.length := fun hh => h (Int.ofNat_lt.1 hh)
      simp only [this, decide_false, cond_false]; show l.length = _; omega
  have e2 : (bif decide (Int.ofNat (300 : Nat) < Int.ofNat (List.length l)) then Int.ofNat (300 : Nat) else Int.ofNat (List.length l)) = Int.ofNat (min 300 l.length) := by
    by_cases h : 300 < l.length
    · have : Int.ofNat 300 < Int.ofNat l.length := Int.ofNat_lt.2 h
      simp only [this, decide_true, cond_true]; congr 1; omega
    · have : ¬ Int.ofNat 300 < Int.ofNat l.length := fun hh => h (Int.ofNat_lt.1 hh)
      simp only [this, decide_false, cond_false]; congr 1; omega
  rw [e, e2]
  refine ⟨⟨Int.ofNat_le.2 (Nat.zero_le _), Int.ofNat_le.2 (Nat.min_le_right _ _)⟩, ⟨⟨⟨fun b hb => (by cases hb), by omega⟩, Nat.le_refl _⟩, ⟨Nat.le_refl _, ?_⟩, fun x hx => ⟨by omega, x, hx, rfl⟩⟩⟩
  by_cases h : 300 < l.length
  · rw [Nat.min_eq_left (by omega)]
  · rw [Nat.min_eq_right (by omega), List.take_length, List.take_of_length_le (by omega)]
set_option maxRecDepth 100000 in
theorem cut_spec : SpecOk Tryz.prog 5 (specN (List UInt8) (List UInt8) dec1 (fun _ => True) (fun _ x => Ok7 x) .str) := by
  refine specN_ok ⟨Tryz.f5, by kernel_rfl, rfl, by kernel_rfl⟩ (fun _ => rfl) fun args l ha _ => ?_
  rw [dec1_ok ha]
  refine ⟨rfl, fnW (b := bodyOf Tryz.f5) (fn := Tryz.f5) ftOk nofOk (LT := [([0, 1, 0, 1, 1], (cutD l).at (0, []))]) 100 (LTok.cons (fun fr H K hk => LoopD.ok (cut_body l) hk) LTok.nil) (by kernel_rfl) (by kernel_rfl) rfl ?_⟩
  refine of_eq (q := cutR2 l) (by kernel_rfl) ?_
  exact cut_r2 l
#print axioms cut_spec
end T
