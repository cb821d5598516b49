/- A part of the proof of this claim: lemmas of its own; what is proved, and on what conditions, the last text says. -/
import Derived.Test.YtfpckklhljbelaaGreatDoorUnD
open Go Go.Sx Go.Proofs
namespace T
set_option linter.all false
variable [Syms]
def unR1 (l : List UInt8) (k : Nat) : Prop :=
  br (decide (Int.ofNat k < Int.ofNat (List.length l)))
  (gd (decide (Int.ofNat k < Int.ofNat (List.length l)))
    (gd (Nat.blt k (List.length l))
      (br (Int.ofNat (UInt8.toNat (List.getD l k (0 : UInt8))) != Int.ofNat (7 : Nat))
        (∃ (j' : Nat),
          (j' ≤ List.length l ∧ List.length l ≤ (1000000 : Nat) ∧ ∀ (b : UInt8), b ∈ l → b ≠ (7 : UInt8)) ∧
            List.length l - j' < List.length l - k ∧
              (0 : Nat) = (0 : Nat) ∧
                Value.int IntKind.i64 (IntKind.wrap IntKind.i64 (Int.ofNat (k + (1 : Nat)))) = Value.int IntKind.i64 (Int.ofNat j') ∧
                  (0 : Nat) = (0 : Nat) ∧ List.length l = List.length l ∧ (1 : Nat) ≤ (1 : Nat) ∧ l = l ∧ (0 : Nat) ≤ (0 : Nat) ∧ True)
        (br (decide (IntKind.wrap IntKind.i64 (Int.ofNat (k + (1 : Nat))) ≥ Int.ofNat (List.length l)))
          (∃ (x : Unit),
            True ∧ (0 : Nat) = (0 : Nat) ∧ (0 : Nat) = (0 : Nat) ∧ List.length l = List.length l ∧ (1 : Nat) ≤ (1 : Nat) ∧ l = l ∧ (0 : Nat) ≤ (0 : Nat) ∧ True)
          False))))
  (∃ (x : Unit),
    True ∧ (0 : Nat) = (0 : Nat) ∧ (0 : Nat) = (0 : Nat) ∧ List.length l = List.length l ∧ (1 : Nat) ≤ (1 : Nat) ∧ l = l ∧ (0 : Nat) ≤ (0 : Nat) ∧ True)

def unR2 (l : List UInt8) (k : Nat) : Prop :=
  br (decide (Int.ofNat k < Int.ofNat (List.length l)))
  (gd (decide (Int.ofNat k < Int.ofNat (List.length l)))
    (gd (Nat.blt k (List.length l))
      (br (Int.ofNat (UInt8.toNat (List.getD l k (0 : UInt8))) != Int.ofNat (7 : Nat))
        (gd (decide (Int.ofNat (UInt8.toNat (List.getD l k (0 : UInt8))) < Int.ofNat (256 : Nat)) && true && true)
          (gd (Nat.ble k (List.length (List.take k l)) && (Nat.ble (k + (1 : Nat)) (140737488355328 : Nat) && true))
            (∃ (j' : Nat),
              (j' ≤ List.length l ∧ List.length l ≤ (1000000 : Nat) ∧ ∀ (b : UInt8), b ∈ l → b ≠ (7 : UInt8)) ∧
                List.length l - j' < List.length l - k ∧
                  (0 : Nat) = (0 : Nat) ∧
                    List.length l = List.length l ∧
                      Value.int IntKind.i64 (Int.ofNat (List.length l)) = Value.int IntKind.i64 (Int.ofNat (List.length l)) ∧
                        Value.int IntKind.i64 (IntKind.wrap IntKind.i64 (Int.ofNat (k + (1 : Nat)))) = Value.int IntKind.i64 (Int.ofNat j') ∧
                          (0 : Nat) = (0 : Nat) ∧
                            k + (1 : Nat) = j' ∧
                              l = l ∧
                                (0 : Nat) ≤ (0 : Nat) ∧
                                  List.take k (List.take k l) ++ [UInt8.ofNat (UInt8.toNat (List.getD l k (0 : UInt8)))] = List.take j' l ∧ True)))
        False)))
  (∃ (x : Unit), True ∧ (0 : Nat) = (0 : Nat) ∧ k = List.length l ∧ List.take k l = l ∧ True)

def unR3 (l : List UInt8) : Prop :=
  gd
  (decide (Int.ofNat (List.length l) ≤ Int.ofNat (List.length l)) &&
    (decide (Int.ofNat (List.length l) ≤ Int.ofNat (281474976710656 : Nat)) &&
      (decide (Int.ofNat ((1 : Nat) * List.length l) ≤ Int.ofNat (281474976710656 : Nat)) && true)))
  (((0 : Nat) ≤ List.length l ∧ List.length l ≤ (1000000 : Nat) ∧ ∀ (b : UInt8), b ∈ l → b ≠ (7 : UInt8)) ∧
    ((0 : Nat) = (0 : Nat) ∧
        Value.int IntKind.i64 (Int.ofNat (0 : Nat)) = Value.int IntKind.i64 (Int.ofNat (0 : Nat)) ∧
          (0 : Nat) = (0 : Nat) ∧ List.length l = List.length l ∧ (1 : Nat) ≤ (1 : Nat) ∧ l = l ∧ (0 : Nat) ≤ (0 : Nat) ∧ True) ∧
      ∀ (x : Unit),
        True →
          gd
            (decide (Int.ofNat (List.length l) ≤ Int.ofNat (281474976710656 : Nat)) &&
              (decide (Int.ofNat ((1 : Nat) * List.length l) ≤ Int.ofNat (281474976710656 : Nat)) && true))
            (((0 : Nat) ≤ List.length l ∧ List.length l ≤ (1000000 : Nat) ∧ ∀ (b : UInt8), b ∈ l → b ≠ (7 : UInt8)) ∧
              ((0 : Nat) = (0 : Nat) ∧
                  List.length l = List.length l ∧
                    Value.int IntKind.i64 (Int.ofNat (List.length l)) = Value.int IntKind.i64 (Int.ofNat (List.length l)) ∧
                      Value.int IntKind.i64 (Int.ofNat (0 : Nat)) = Value.int IntKind.i64 (Int.ofNat (0 : Nat)) ∧
                        (0 : Nat) = (0 : Nat) ∧
                          (0 : Nat) = (0 : Nat) ∧ l = l ∧ (0 : Nat) ≤ (0 : Nat) ∧ ([] : List UInt8) = [] ∧ List.length l * (1 : Nat) ≤ List.length l ∧ True) ∧
                ∀ (x : Unit), True → l = l ∧ List.length l = List.length l ∧ True))

def unR4 (l : List UInt8) : Prop :=
  ([] : List AVal) = [] ∧
  H0 = H0 ∧
    ((∀ (b : UInt8), b ∈ l → b ≠ (7 : UInt8)) ∧ List.length l ≤ (1000000 : Nat)) ∧
      (0 : Nat) = (0 : Nat) ∧
        (0 : Nat) = (0 : Nat) ∧
          List.length l = List.length l ∧
            ([] : List UInt8) = [] ∧
              (11 : Nat) ≤ (11 : Nat) ∧
                l = l ∧
                  ∀ (x : List UInt8), x = l → gd (Nat.ble ((0 : Nat) + List.length x) (List.length x)) (AVal.str (List.take (List.length x) x) = AVal.str l)

def asR1 (l : List UInt8) (k : Nat) (out : List UInt8) : Prop :=
  br (decide (Int.ofNat k < Int.ofNat (min (300 : Nat) (List.length l))))
  (gd (decide (Int.ofNat k < Int.ofNat (List.length l)))
    (br (decide (Int.ofNat (UInt8.toNat (List.getD l k (0 : UInt8))) ≥ Int.ofNat (32 : Nat)))
      (br (decide (Int.ofNat (UInt8.toNat (List.getD l k (0 : UInt8))) ≤ Int.ofNat (126 : Nat)))
        (gd (decide (Int.ofNat (UInt8.toNat (List.getD l k (0 : UInt8))) < Int.ofNat (256 : Nat)) && true && true)
          (gd (Nat.ble (List.length out) (List.length out) && (Nat.ble (List.length out + (1 : Nat)) (140737488355328 : Nat) && true))
            (∃ (j' : Nat × List UInt8),
              (((∀ (b : UInt8), b ∈ j'.snd → b ≠ (7 : UInt8) ∧ b ≠ (0 : UInt8)) ∧ List.length j'.snd ≤ (300 : Nat)) ∧
                  List.length j'.snd ≤ j'.fst ∧ j'.fst ≤ min (300 : Nat) (List.length l)) ∧
                List.length l - j'.fst < List.length l - k ∧
                  l = l ∧
                    (0 : Nat) = (0 : Nat) ∧
                      List.length out + (1 : Nat) = List.length j'.snd ∧
                        Value.int IntKind.i64 (Int.ofNat (min (300 : Nat) (List.length l))) =
                            Value.int IntKind.i64 (Int.ofNat (min (300 : Nat) (List.length l))) ∧
                          Value.int IntKind.i64 (IntKind.wrap IntKind.i64 (Int.ofNat (k + (1 : Nat)))) = Value.int IntKind.i64 (Int.ofNat j'.fst) ∧
                            List.take (List.length out) out ++ [UInt8.ofNat (UInt8.toNat (List.getD l k (0 : UInt8)))] = j'.snd ∧ True)))
        (br (Int.ofNat (UInt8.toNat (List.getD l k (0 : UInt8))) == Int.ofNat (9 : Nat))
          (gd (decide (Int.ofNat (UInt8.toNat (List.getD l k (0 : UInt8))) < Int.ofNat (256 : Nat)) && true && true)
            (gd (Nat.ble (List.length out) (List.length out) && (Nat.ble (List.length out + (1 : Nat)) (140737488355328 : Nat) && true))
              (∃ (j' : Nat × List UInt8),
                (((∀ (b : UInt8), b ∈ j'.snd → b ≠ (7 : UInt8) ∧ b ≠ (0 : UInt8)) ∧ List.length j'.snd ≤ (300 : Nat)) ∧
                    List.length j'.snd ≤ j'.fst ∧ j'.fst ≤ min (300 : Nat) (List.length l)) ∧
                  List.length l - j'.fst < List.length l - k ∧
                    l = l ∧
                      (0 : Nat) = (0 : Nat) ∧
                        List.length out + (1 : Nat) = List.length j'.snd ∧
                          Value.int IntKind.i64 (Int.ofNat (min (300 : Nat) (List.length l))) =
                              Value.int IntKind.i64 (Int.ofNat (min (300 : Nat) (List.length l))) ∧
                            Value.int IntKind.i64 (IntKind.wrap IntKind.i64 (Int.ofNat (k + (1 : Nat)))) = Value.int IntKind.i64 (Int.ofNat j'.fst) ∧
                              List.take (List.length out) out ++ [UInt8.ofNat (UInt8.toNat (List.getD l k (0 : UInt8)))] = j'.snd ∧ True)))
          (br (Int.ofNat (UInt8.toNat (List.getD l k (0 : UInt8))) == Int.ofNat (10 : Nat))
            (gd (decide (Int.ofNat (UInt8.toNat (List.getD l k (0 : UInt8))) < Int.ofNat (256 : Nat)) && true && true)
              (gd (Nat.ble (List.length out) (List.length out) && (Nat.ble (List.length out + (1 : Nat)) (140737488355328 : Nat) && true))
                (∃ (j' : Nat × List UInt8),
                  (((∀ (b : UInt8), b ∈ j'.snd → b ≠ (7 : UInt8) ∧ b ≠ (0 : UInt8)) ∧ List.length j'.snd ≤ (300 : Nat)) ∧
                      List.length j'.snd ≤ j'.fst ∧ j'.fst ≤ min (300 : Nat) (List.length l)) ∧
                    List.length l - j'.fst < List.length l - k ∧
                      l = l ∧
                        (0 : Nat) = (0 : Nat) ∧
                          List.length out + (1 : Nat) = List.length j'.snd ∧
                            Value.int IntKind.i64 (Int.ofNat (min (300 : Nat) (List.length l))) =
                                Value.int IntKind.i64 (Int.ofNat (min (300 : Nat) (List.length l))) ∧
                              Value.int IntKind.i64 (IntKind.wrap IntKind.i64 (Int.ofNat (k + (1 : Nat)))) = Value.int IntKind.i64 (Int.ofNat j'.fst) ∧
                                List.take (List.length out) out ++ [UInt8.ofNat (UInt8.toNat (List.getD l k (0 : UInt8)))] = j'.snd ∧ True)))
            (∃ (j' : Nat × List UInt8),
              (((∀ (b : UInt8), b ∈ j'.snd → b ≠ (7 : UInt8) ∧ b ≠ (0 : UInt8)) ∧ List.length j'.snd ≤ (300 : Nat)) ∧
                  List.length j'.snd ≤ j'.fst ∧ j'.fst ≤ min (300 : Nat) (List.length l)) ∧
                List.length l - j'.fst < List.length l - k ∧
                  l = l ∧
                    (0 : Nat) = (0 : Nat) ∧
                      List.length out = List.length j'.snd ∧
                        Value.int IntKind.i64 (Int.ofNat (min (300 : Nat) (List.length l))) =
                            Value.int IntKind.i64 (Int.ofNat (min (300 : Nat) (List.length l))) ∧
                          Value.int IntKind.i64 (IntKind.wrap IntKind.i64 (Int.ofNat (k + (1 : Nat)))) = Value.int IntKind.i64 (Int.ofNat j'.fst) ∧
                            out = j'.snd ∧ True))))
      (br (Int.ofNat (UInt8.toNat (List.getD l k (0 : UInt8))) == Int.ofNat (9 : Nat))
        (gd (decide (Int.ofNat (UInt8.toNat (List.getD l k (0 : UInt8))) < Int.ofNat (256 : Nat)) && true && true)
          (gd (Nat.ble (List.length out) (List.length out) && (Nat.ble (List.length out + (1 : Nat)) (140737488355328 : Nat) && true))
            (∃ (j' : Nat × List UInt8),
              (((∀ (b : UInt8), b ∈ j'.snd → b ≠ (7 : UInt8) ∧ b ≠ (0 : UInt8)) ∧ List.length j'.snd ≤ (300 : Nat)) ∧
                  List.length j'.snd ≤ j'.fst ∧ j'.fst ≤ min (300 : Nat) (List.length l)) ∧
                List.length l - j'.fst < List.length l - k ∧
                  l = l ∧
                    (0 : Nat) = (0 : Nat) ∧
                      List.length out + (1 : Nat) = List.length j'.snd ∧
                        Value.int IntKind.i64 (Int.ofNat (min (300 : Nat) (List.length l))) =
                            Value.int IntKind.i64 (Int.ofNat (min (300 : Nat) (List.length l))) ∧
                          Value.int IntKind.i64 (IntKind.wrap IntKind.i64 (Int.ofNat (k + (1 : Nat)))) = Value.int IntKind.i64 (Int.ofNat j'.fst) ∧
                            List.take (List.length out) out ++ [UInt8.ofNat (UInt8.toNat (List.getD l k (0 : UInt8)))] = j'.snd ∧ True)))
        (br (Int.ofNat (UInt8.toNat (List.getD l k (0 : UInt8))) == Int.ofNat (10 : Nat))
          (gd (decide (Int.ofNat (UInt8.toNat (List.getD l k (0 : UInt8))) < Int.ofNat (256 : Nat)) && true && true)
            (gd (Nat.ble (List.length out) (List.length out) && (Nat.ble (List.length out + (1 : Nat)) (140737488355328 : Nat) && true))
              (∃ (j' : Nat × List UInt8),
                (((∀ (b : UInt8), b ∈ j'.snd → b ≠ (7 : UInt8) ∧ b ≠ (0 : UInt8)) ∧ List.length j'.snd ≤ (300 : Nat)) ∧
                    List.length j'.snd ≤ j'.fst ∧ j'.fst ≤ min (300 : Nat) (List.length l)) ∧
                  List.length l - j'.fst < List.length l - k ∧
                    l = l ∧
                      (0 : Nat) = (0 : Nat) ∧
                        List.length out + (1 : Nat) = List.length j'.snd ∧
                          Value.int IntKind.i64 (Int.ofNat (min (300 : Nat) (List.length l))) =
                              Value.int IntKind.i64 (Int.ofNat (min (300 : Nat) (List.length l))) ∧
                            Value.int IntKind.i64 (IntKind.wrap IntKind.i64 (Int.ofNat (k + (1 : Nat)))) = Value.int IntKind.i64 (Int.ofNat j'.fst) ∧
                              List.take (List.length out) out ++ [UInt8.ofNat (UInt8.toNat (List.getD l k (0 : UInt8)))] = j'.snd ∧ True)))
          (∃ (j' : Nat × List UInt8),
            (((∀ (b : UInt8), b ∈ j'.snd → b ≠ (7 : UInt8) ∧ b ≠ (0 : UInt8)) ∧ List.length j'.snd ≤ (300 : Nat)) ∧
                List.length j'.snd ≤ j'.fst ∧ j'.fst ≤ min (300 : Nat) (List.length l)) ∧
              List.length l - j'.fst < List.length l - k ∧
                l = l ∧
                  (0 : Nat) = (0 : Nat) ∧
                    List.length out = List.length j'.snd ∧
                      Value.int IntKind.i64 (Int.ofNat (min (300 : Nat) (List.length l))) =
                          Value.int IntKind.i64 (Int.ofNat (min (300 : Nat) (List.length l))) ∧
                        Value.int IntKind.i64 (IntKind.wrap IntKind.i64 (Int.ofNat (k + (1 : Nat)))) = Value.int IntKind.i64 (Int.ofNat j'.fst) ∧
                          out = j'.snd ∧ True)))))
  (∃ (x : List UInt8),
    ((∀ (b : UInt8), b ∈ x → b ≠ (7 : UInt8) ∧ b ≠ (0 : UInt8)) ∧ List.length x ≤ (300 : Nat)) ∧
      (0 : Nat) = (0 : Nat) ∧ List.length out = List.length x ∧ out = x ∧ True)

def asR2 (l : List UInt8) : Prop :=
  (((∀ (b : UInt8), b ∈ ([] : List UInt8) → b ≠ (7 : UInt8) ∧ b ≠ (0 : UInt8)) ∧ (0 : Nat) ≤ (300 : Nat)) ∧
    (0 : Nat) ≤ (0 : Nat) ∧ (0 : Nat) ≤ min (300 : Nat) (List.length l)) ∧
  (l = l ∧
      (0 : Nat) = (0 : Nat) ∧
        (0 : Nat) = (0 : Nat) ∧
          Value.int IntKind.i64 (bif decide (Int.ofNat (300 : Nat) < Int.ofNat (List.length l)) then Int.ofNat (300 : Nat) else Int.ofNat (List.length l)) =
              Value.int IntKind.i64 (Int.ofNat (min (300 : Nat) (List.length l))) ∧
            Value.int IntKind.i64 (Int.ofNat (0 : Nat)) = Value.int IntKind.i64 (Int.ofNat (0 : Nat)) ∧ ([] : List UInt8) = [] ∧ (0 : Nat) ≤ (0 : Nat) ∧ True) ∧
    ∀ (x : List UInt8),
      (∀ (b : UInt8), b ∈ x → b ≠ (7 : UInt8) ∧ b ≠ (0 : UInt8)) ∧ List.length x ≤ (300 : Nat) →
        gd (Nat.ble ((0 : Nat) + List.length x) (List.length x))
          (∃ (x_1 : List UInt8),
            ((∀ (b : UInt8), b ∈ x_1 → b ≠ (7 : UInt8) ∧ b ≠ (0 : UInt8)) ∧ List.length x_1 ≤ (300 : Nat)) ∧
              AVal.str (List.take (List.length x) x) = AVal.str x_1)

def uwR1 (l : List UInt8) (k : Nat) : Prop :=
  br (decide (Int.ofNat k < Int.ofNat (List.length l)))
  (gd (decide (Int.ofNat k < Int.ofNat (List.length l)))
    (gd (Nat.blt k (List.length (uwL l k)))
      (True ∧
        br (punctI (Int.ofNat (UInt8.toNat (List.getD (uwL l k) k (0 : UInt8)))))
          (gd (decide (Int.ofNat k < Int.ofNat (List.length l)))
            (gd (Nat.blt k (List.length (uwL l k)) && true)
              (∃ (j' : Nat),
                Nat.le j' (List.length l) ∧
                  List.length l - j' < List.length l - k ∧
                    (0 : Nat) = (0 : Nat) ∧
                      List.length l = List.length l ∧
                        Value.int IntKind.i64 (Int.ofNat (List.length l)) = Value.int IntKind.i64 (Int.ofNat (List.length l)) ∧
                          Value.int IntKind.i64 (IntKind.wrap IntKind.i64 (Int.ofNat (k + (1 : Nat)))) = Value.int IntKind.i64 (Int.ofNat j') ∧
                            List.set (uwL l k) k (120 : UInt8) = uwL l j' ∧ True)))
          (∃ (j' : Nat),
            Nat.le j' (List.length l) ∧
              List.length l - j' < List.length l - k ∧
                (0 : Nat) = (0 : Nat) ∧
                  List.length l = List.length l ∧
                    Value.int IntKind.i64 (Int.ofNat (List.length l)) = Value.int IntKind.i64 (Int.ofNat (List.length l)) ∧
                      Value.int IntKind.i64 (IntKind.wrap IntKind.i64 (Int.ofNat (k + (1 : Nat)))) = Value.int IntKind.i64 (Int.ofNat j') ∧
                        uwL l k = uwL l j' ∧ True))))
  (∃ (x : Unit), True ∧ (0 : Nat) = (0 : Nat) ∧ List.length l = List.length l ∧ uwL l k = uwL l (List.length l) ∧ True)

def uwR2 (l : List UInt8) : Prop :=
  br (decide (Int.ofNat (List.length l) > Int.ofNat (2147483647 : Nat))) (AVal.lit (Value.bool true) = AVal.lit (Value.bool true))
  (True ∧
    ∀ (x : List UInt8),
      (∀ (b : UInt8), b ∈ x → b ≠ (7 : UInt8) ∧ b ≠ (0 : UInt8)) ∧ List.length x ≤ (300 : Nat) →
        ∃ (S : List UInt8),
          ((∀ (b : UInt8), b ∈ S → b ≠ (7 : UInt8) ∧ b ≠ (0 : UInt8)) ∧ List.length S ≤ (300 : Nat)) ∧
            Nat.le (0 : Nat) (List.length S) ∧
              ((0 : Nat) = (0 : Nat) ∧
                  List.length x = List.length S ∧
                    Value.int IntKind.i64 (Int.ofNat (List.length x)) = Value.int IntKind.i64 (Int.ofNat (List.length S)) ∧
                      Value.int IntKind.i64 (Int.ofNat (0 : Nat)) = Value.int IntKind.i64 (Int.ofNat (0 : Nat)) ∧ x = S ∧ True) ∧
                ∀ (x : Unit),
                  True →
                    gd (Nat.ble ((0 : Nat) + List.length S) (List.length (uwL S (List.length S))))
                        ((((∀ (b : UInt8), b ∈ List.take (List.length S) (List.drop (0 : Nat) (uwL S (List.length S))) → b ≠ (0 : UInt8)) ∧
                              List.length (List.take (List.length S) (List.drop (0 : Nat) (uwL S (List.length S)))) ≤ (1000000 : Nat)) ∧
                            (((∀ (b : UInt8), b ∈ escF (List.take (List.length S) (List.drop (0 : Nat) (uwL S (List.length S)))) → b ≠ (7 : UInt8)) ∧
                                  List.length (escF (List.take (List.length S) (List.drop (0 : Nat) (uwL S (List.length S))))) ≤ (1000000 : Nat)) ∧
                                gd (Nat.ble ((0 : Nat) + List.length S) (List.length (uwL S (List.length S))))
                                  (br
                                    (eqL (escF (List.take (List.length S) (List.drop (0 : Nat) (uwL S (List.length S)))))
                                      (List.take (List.length S) (List.drop (0 : Nat) (uwL S (List.length S)))))
                                    (True ∧ AVal.lit (Value.bool true) = AVal.lit (Value.bool true))
                                    (AVal.lit (Value.bool false) = AVal.lit (Value.bool true)))) ∧
                              gd (Nat.ble ((0 : Nat) + List.length S) (List.length (uwL S (List.length S))))
                                (((∀ (b : UInt8), b ∈ escF (List.take (List.length S) (List.drop (0 : Nat) (uwL S (List.length S)))) → b ≠ (7 : UInt8)) ∧
                                    List.length (escF (List.take (List.length S) (List.drop (0 : Nat) (uwL S (List.length S))))) ≤ (1000000 : Nat)) ∧
                                  br
                                    (eqL (escF (List.take (List.length S) (List.drop (0 : Nat) (uwL S (List.length S)))))
                                      (List.take (List.length S) (List.drop (0 : Nat) (uwL S (List.length S)))))
                                    (True ∧ AVal.lit (Value.bool true) = AVal.lit (Value.bool true))
                                    (AVal.lit (Value.bool false) = AVal.lit (Value.bool true)))) ∧
                          gd (Nat.ble ((0 : Nat) + List.length S) (List.length (uwL S (List.length S))))
                            (((∀ (b : UInt8), b ∈ List.take (List.length S) (List.drop (0 : Nat) (uwL S (List.length S))) → b ≠ (0 : UInt8)) ∧
                                List.length (List.take (List.length S) (List.drop (0 : Nat) (uwL S (List.length S)))) ≤ (1000000 : Nat)) ∧
                              ((∀ (b : UInt8), b ∈ escF (List.take (List.length S) (List.drop (0 : Nat) (uwL S (List.length S)))) → b ≠ (7 : UInt8)) ∧
                                  List.length (escF (List.take (List.length S) (List.drop (0 : Nat) (uwL S (List.length S))))) ≤ (1000000 : Nat)) ∧
                                br
                                  (eqL (escF (List.take (List.length S) (List.drop (0 : Nat) (uwL S (List.length S)))))
                                    (List.take (List.length S) (List.drop (0 : Nat) (uwL S (List.length S)))))
                                  (True ∧ AVal.lit (Value.bool true) = AVal.lit (Value.bool true))
                                  (AVal.lit (Value.bool false) = AVal.lit (Value.bool true)))) ∧
                      gd (Nat.ble ((0 : Nat) + List.length S) (List.length (uwL S (List.length S))))
                        (gd (Nat.ble ((0 : Nat) + List.length S) (List.length (uwL S (List.length S))))
                          (((∀ (b : UInt8), b ∈ List.take (List.length S) (List.drop (0 : Nat) (uwL S (List.length S))) → b ≠ (0 : UInt8)) ∧
                              List.length (List.take (List.length S) (List.drop (0 : Nat) (uwL S (List.length S)))) ≤ (1000000 : Nat)) ∧
                            ((∀ (b : UInt8), b ∈ escF (List.take (List.length S) (List.drop (0 : Nat) (uwL S (List.length S)))) → b ≠ (7 : UInt8)) ∧
                                List.length (escF (List.take (List.length S) (List.drop (0 : Nat) (uwL S (List.length S))))) ≤ (1000000 : Nat)) ∧
                              br
                                (eqL (escF (List.take (List.length S) (List.drop (0 : Nat) (uwL S (List.length S)))))
                                  (List.take (List.length S) (List.drop (0 : Nat) (uwL S (List.length S)))))
                                (True ∧ AVal.lit (Value.bool true) = AVal.lit (Value.bool true)) (AVal.lit (Value.bool false) = AVal.lit (Value.bool true)))))
theorem un_r1 (l : List UInt8) (k : Nat) (h1 : k ≤ l.length) (h2 : l.length ≤ 1000000) (h3 : ∀ b ∈ l, b ≠ 7) : unR1 l k := by
  unfold unR1
  simp only [gd_iff, br_iff, blt_iff, decide_eq_true_eq, decide_eq_false_iff_not, and_true, true_and, Nat.le_refl]
  refine ⟨fun hk => ?_, fun _ => ⟨(), trivial⟩⟩
  have hk' : k < l.length := Int.ofNat_lt.1 hk
  have hm : l.getD k 0 ∈ l := by simp [List.getD_eq_getElem?_getD, hk']
  refine ⟨hk, hk', fun _ => ⟨k + 1, ⟨hk', h2, h3⟩, by omega, by rw [wrap_ok (by omega)]⟩, fun h => ?_⟩
  have h : Int.ofNat (l.getD k 0).toNat = Int.ofNat 7 := by
    have := h
    simp only [bne_eq_false_iff_eq] at this
    exact this
  exact absurd (UInt8.toNat_inj.1 (Int.ofNat.inj h)) (h3 _ hm)
theorem un_r2 (l : List UInt8) (k : Nat) (h1 : k ≤ l.length) (h2 : l.length ≤ 1000000) (h3 : ∀ b ∈ l, b ≠ 7) : unR2 l k := by
  unfold unR2
  simp only [gd_iff, br_iff, blt_iff, ble_iff, Bool.and_eq_true, decide_eq_true_eq, decide_eq_false_iff_not, and_true, true_and, Nat.le_refl]
  refine ⟨fun hk => ?_, fun hk => ⟨(), ?_⟩⟩
  · have hk' : k < l.length := Int.ofNat_lt.1 hk
    have hm : l.getD k 0 ∈ l := by simp [List.getD_eq_getElem?_getD, hk']
    have hl : (l.take k).length = k := by rw [List.length_take]; omega
    refine ⟨hk, hk', fun _ => ⟨Int.ofNat_lt.2 (UInt8.toNat_lt _), by omega, k + 1, ⟨hk', h2, h3⟩, by omega, by rw [wrap_ok (by omega)], rfl, ?_⟩, fun h => ?_⟩
    · rw [UInt8.ofNat_toNat, List.take_take, Nat.min_self, List.take_add_one]
      congr 1
      simp [List.getD_eq_getElem?_getD, hk']
    · have h : Int.ofNat (l.getD k 0).toNat = Int.ofNat 7 := by
        have := h
        simp only [bne_eq_false_iff_eq] at this
        exact this
      exact absurd (UInt8.toNat_inj.1 (Int.ofNat.inj h)) (h3 _ hm)
  · have hk' : ¬ k < l.length := fun h => hk (Int.ofNat_lt.2 h)
    have e : k = l.length := by omega
    exact ⟨e, by rw [e]; exact List.take_length⟩
theorem un_r3 (l : List UInt8) (h2 : l.length ≤ 1000000) (h3 : ∀ b ∈ l, b ≠ 7) : unR3 l := by
  unfold unR3
  simp only [gd_iff, Bool.and_eq_true, decide_eq_true_eq, and_true, true_and, Nat.le_refl, implies_true]
  have ha : Int.ofNat l.length ≤ Int.ofNat 281474976710656 := Int.ofNat_le.2 (by omega)
  have hb : Int.ofNat (1 * l.length) ≤ Int.ofNat 281474976710656 := Int.ofNat_le.2 (by omega)
  refine ⟨⟨Int.le_refl _, ha, hb⟩, ⟨Nat.zero_le _, h2, h3⟩, fun _ _ => ⟨⟨ha, hb⟩, ⟨Nat.zero_le _, h2, h3⟩, ?_⟩⟩
  show _ * 1 ≤ _
  omega
theorem un_r4 (l : List UInt8) (h2 : l.length ≤ 1000000) (h3 : ∀ b ∈ l, b ≠ 7) : unR4 l := by
  unfold unR4
  simp only [gd_iff, ble_iff, and_true, true_and, Nat.le_refl, take_len]
  exact ⟨⟨h3, h2⟩, fun x hx => ⟨by omega, by rw [hx]⟩⟩
theorem as_r1 (l : List UInt8) (k : Nat) (out : List UInt8) (h1 : Ok7 out) (h2 : out.length ≤ k) (h3 : k ≤ min 300 l.length) : asR1 l k out := by
  unfold asR1
  simp only [gd_iff, br_iff, ble_iff, Bool.and_eq_true, decide_eq_true_eq, decide_eq_false_iff_not, and_true, true_and, Nat.le_refl, take_len]
  refine ⟨fun hk => ?_, fun _ => ⟨out, h1, rfl, rfl⟩⟩
  have hk' : k < min 300 l.length := Int.ofNat_lt.1 hk
  have hl : k < l.length := by omega
  have f1 : Int.ofNat (l.getD k 0).toNat ≥ Int.ofNat 32 → l.getD k 0 ≠ 7 ∧ l.getD k 0 ≠ 0 := fun h => by
    have h : 32 ≤ (l.getD k 0).toNat := Int.ofNat_le.1 h
    refine ⟨fun e => ?_, fun e => ?_⟩ <;> rw [e] at h <;> exact absurd h (by decide)
  have f2 : (Int.ofNat (l.getD k 0).toNat == Int.ofNat 9) = true → l.getD k 0 ≠ 7 ∧ l.getD k 0 ≠ 0 := fun h => by
    have h : (l.getD k 0).toNat = 9 := Int.ofNat.inj (eq_of_beq h)
    refine ⟨fun e => ?_, fun e => ?_⟩ <;> rw [e] at h <;> exact absurd h (by decide)
  have f3 : (Int.ofNat (l.getD k 0).toNat == Int.ofNat 10) = true → l.getD k 0 ≠ 7 ∧ l.getD k 0 ≠ 0 := fun h => by
    have h : (l.getD k 0).toNat = 10 := Int.ofNat.inj (eq_of_beq h)
    refine ⟨fun e => ?_, fun e => ?_⟩ <;> rw [e] at h <;> exact absurd h (by decide)
  have hN : ∃ (j' : Nat × List UInt8), (((∀ (b : UInt8), b ∈ j'.snd → b ≠ (7 : UInt8) ∧ b ≠ (0 : UInt8)) ∧ List.length j'.snd ≤ (300 : Nat)) ∧ List.length j'.snd ≤ j'.fst ∧ j'.fst ≤ min (300 : Nat) (List.length l)) ∧ List.length l - j'.fst < List.length l - k ∧ List.length out = List.length j'.snd ∧ Value.int IntKind.i64 (IntKind.wrap IntKind.i64 (Int.ofNat (k + (1 : Nat)))) = Value.int IntKind.i64 (Int.ofNat j'.fst) ∧ out = j'.snd :=
    ⟨(k + 1, out), ⟨h1, by simp; omega, by simp; omega⟩, by simp; omega, rfl, by rw [wrap_ok (by omega)], rfl⟩
  have hA : (l.getD k 0 ≠ 7 ∧ l.getD k 0 ≠ 0) → Int.ofNat (l.getD k 0).toNat < Int.ofNat 256 ∧ out.length + 1 ≤ 140737488355328 ∧ ∃ (j' : Nat × List UInt8), (((∀ (b : UInt8), b ∈ j'.snd → b ≠ (7 : UInt8) ∧ b ≠ (0 : UInt8)) ∧ List.length j'.snd ≤ (300 : Nat)) ∧ List.length j'.snd ≤ j'.fst ∧ j'.fst ≤ min (300 : Nat) (List.length l)) ∧ List.length l - j'.fst < List.length l - k ∧ List.length out + 1 = List.length j'.snd ∧ Value.int IntKind.i64 (IntKind.wrap IntKind.i64 (Int.ofNat (k + (1 : Nat)))) = Value.int IntKind.i64 (Int.ofNat j'.fst) ∧ out ++ [UInt8.ofNat (UInt8.toNat (List.getD l k (0 : UInt8)))] = j'.snd := fun hb => by
    refine ⟨Int.ofNat_lt.2 (UInt8.toNat_lt _), by omega, (k + 1, out ++ [l.getD k 0]), ⟨⟨fun b hm => ?_, by simp; omega⟩, by simp; omega, by simp; omega⟩, by simp; omega, by simp, by rw [wrap_ok (by omega)], by rw [UInt8.ofNat_toNat]⟩
    rcases List.mem_append.1 hm with hm | hm
    · exact h1.1 b hm
    · rw [List.mem_singleton] at hm; rw [hm]; exact hb
  exact ⟨Int.ofNat_lt.2 hl, fun h => ⟨fun _ => hA (f1 h), fun _ => ⟨fun h => hA (f2 h), fun _ => ⟨fun h => hA (f3 h), fun _ => hN⟩⟩⟩, fun _ => ⟨fun h => hA (f2 h), fun _ => ⟨fun h => hA (f3 h), fun _ => hN⟩⟩⟩
theorem as_r2 (l : List UInt8) : asR2 l := by
  unfold asR2
  simp only [gd_iff, ble_iff, and_true, true_and, Nat.le_refl, take_len]
  have e2 : (bif decide (Int.ofNat (300 : Nat) < Int.ofNat (List.length l)) then Int.ofNat (300 : Nat) else Int.ofNat (List.length l)) = Int.ofNat (min 300 l.length) := by
    by_cases h : 300 < l.length
    · have : Int.ofNat 300 < Int.ofNat l.length := Int.ofNat_lt.2 h
      simp only [this, decide_true, cond_true]; congr 1; omega
    · have : ¬ Int.ofNat 300 < Int.ofNat l.length := fun hh => h (Int.ofNat_lt.1 hh)
      simp only [this, decide_false, cond_false]; congr 1; omega
  rw [e2]
  refine ⟨⟨⟨fun b hb => (by cases hb), Nat.zero_le _⟩, Nat.zero_le _⟩, rfl, fun x hx => ⟨by omega, x, hx, rfl⟩⟩
theorem uwL_len {l : List UInt8} {k : Nat} (h : k ≤ l.length) : (uwL l k).length = l.length := by
  unfold uwL; simp; omega
theorem uwL_split {l : List UInt8} {k : Nat} (h : k < l.length) : uwL l k = (l.take k).map px ++ l.getD k 0 :: l.drop (k + 1) := by
  unfold uwL
  rw [List.drop_eq_getElem_cons h]
  congr 2
  simp [List.getD_eq_getElem?_getD, h]
theorem uwL_get {l : List UInt8} {k : Nat} (h : k < l.length) : (uwL l k).getD k 0 = l.getD k 0 := by
  rw [uwL_split h, getD_right (j := 0) (by simp; omega)]
  rfl
theorem uwL_step {l : List UInt8} {k : Nat} (h : k < l.length) : uwL l (k + 1) = (l.take k).map px ++ px (l.getD k 0) :: l.drop (k + 1) := by
  unfold uwL
  have e : l.take (k + 1) = l.take k ++ [l.getD k 0] := by
    rw [List.take_add_one]; simp [h]
  rw [e]
  simp
theorem uwL_set {l : List UInt8} {k : Nat} (h : k < l.length) (v : UInt8) : (uwL l k).set k v = (l.take k).map px ++ v :: l.drop (k + 1) := by
  rw [uwL_split h, List.set_append_right _ _ (by simp; omega)]
  have : k - ((l.take k).map px).length = 0 := by simp; omega
  rw [this]
  rfl
theorem uw_r1 (l : List UInt8) (k : Nat) (h1 : k ≤ l.length) (h2 : l.length ≤ 1000000) : uwR1 l k := by
  unfold uwR1
  simp only [gd_iff, br_iff, blt_iff, Bool.and_eq_true, decide_eq_true_eq, decide_eq_false_iff_not, and_true, true_and, Nat.le_refl, uwL_len h1]
  refine ⟨fun hk => ?_, fun hk => ⟨(), ?_⟩⟩
  · have hk' : k < l.length := Int.ofNat_lt.1 hk
    rw [uwL_get hk']
    refine ⟨hk, hk', fun hp => ⟨hk, hk', k + 1, hk', by omega, by rw [wrap_ok (by omega)], ?_⟩, fun hp => ⟨k + 1, hk', by omega, by rw [wrap_ok (by omega)], ?_⟩⟩
    · rw [uwL_set hk', uwL_step hk', px, hp]; rfl
    · rw [uwL_split hk', uwL_step hk', px, hp]; rfl
  · have hk' : ¬ k < l.length := fun h => hk (Int.ofNat_lt.2 h)
    have e : k = l.length := by omega
    rw [e]
theorem px_md (b : UInt8) : isMd (px b) = false := by
  unfold px
  cases hp : punctI (Int.ofNat b.toNat) with
  | true => rfl
  | false =>
    cases hm : isMd b with
    | true => rw [md_punct hm] at hp; cases hp
    | false => exact hm
theorem px_ne (b c : UInt8) (h : b ≠ c) (hc : c ≠ 120) : px b ≠ c := by
  unfold px
  cases punctI (Int.ofNat b.toNat) with
  | true => exact fun e => hc e.symm
  | false => exact h
theorem escF_id : ∀ (l : List UInt8), (∀ b ∈ l, isMd b = false) → escF l = l
  | [], _ => rfl
  | b :: r, h => by
    show esc1 b ++ escF r = _
    rw [escF_id r fun x hx => h x (List.mem_cons_of_mem _ hx)]
    simp [esc1, h b (List.mem_cons_self ..)]
theorem uwL_end (S : List UInt8) : uwL S S.length = S.map px := by
  unfold uwL; simp
theorem uw_r2 (l : List UInt8) : uwR2 l := by
  unfold uwR2
  simp only [gd_iff, br_iff, true_and, and_true, implies_true, ble_iff]
  refine fun _ S hS => ⟨S, hS, Nat.zero_le _, ⟨rfl, rfl, rfl⟩, fun _ _ => ?_⟩
  rw [uwL_end]
  have e0 : List.take S.length (List.drop 0 (S.map px)) = S.map px := by
    rw [List.drop_zero]; exact List.take_of_length_le (by simp)
  have e1 : escF (S.map px) = S.map px := escF_id _ fun b hb => by
    obtain ⟨x, _, rfl⟩ := List.mem_map.1 hb
    exact px_md x
  have eq : ∀ x : List UInt8, eqL x x = true := fun x => by rw [eqL_eq]; exact beq_self_eq_true x
  rw [e0, e1, eq]
  have hne : ∀ c : UInt8, c ≠ 120 → (∀ b ∈ S, b ≠ c) → ∀ b ∈ S.map px, b ≠ c := fun c hc h b hb => by
    obtain ⟨x, hx, rfl⟩ := List.mem_map.1 hb
    exact px_ne x c (h x hx) hc
  have h0 := hne 0 (by decide) fun b hb => (hS.1 b hb).2
  have h7 := hne 7 (by decide) fun b hb => (hS.1 b hb).1
  have hlen : (S.map px).length ≤ 1000000 := by rw [List.length_map]; exact Nat.le_trans hS.2 (by omega)
  have hle : 0 + S.length ≤ (S.map px).length := by simp
  have hf : (true = false → AVal.lit (Value.bool false) = AVal.lit (Value.bool true)) := fun h => by cases h
  exact ⟨⟨hle, ⟨⟨h0, hlen⟩, ⟨⟨h7, hlen⟩, hle, hf⟩, hle, ⟨h7, hlen⟩, hf⟩, hle, ⟨h0, hlen⟩, ⟨h7, hlen⟩, hf⟩, hle, hle, ⟨h0, hlen⟩, ⟨h7, hlen⟩, hf⟩
set_option maxRecDepth 100000 in
theorem un_body1 (l : List UInt8) : (unD1 l).Body Tryz.prog (sub (bodyOf Tryz.f23) [0, 0, 1, 0, 1, 1, 1, 1]) := by
  rintro k ⟨h1, h2, h3⟩
  refine exW_ok (root := bodyOf Tryz.f23) ftOk nofOk LTok.nil 100 (p := [0, 0, 1, 0, 1, 1, 1, 1]) ?_ rfl
  refine of_eq (q := unR1 l k) (by kernel_rfl) ?_
  exact un_r1 l k h1 h2 h3
set_option maxRecDepth 100000 in
theorem un_body2 (l : List UInt8) : (unD2 l).Body Tryz.prog (sub (bodyOf Tryz.f23) [0, 0, 1, 0, 1, 1, 1, 1, 1, 1]) := by
  rintro k ⟨h1, h2, h3⟩
  refine exW_ok (root := bodyOf Tryz.f23) ftOk nofOk LTok.nil 100 (p := [0, 0, 1, 0, 1, 1, 1, 1, 1, 1]) ?_ rfl
  refine of_eq (q := unR2 l k) (by kernel_rfl) ?_
  exact un_r2 l k h1 h2 h3
set_option maxRecDepth 100000 in
theorem un_spec : SpecOk Tryz.prog 23 unS.spec := by
  refine ownS_ok ⟨Tryz.f23, by kernel_rfl, rfl, by kernel_rfl⟩ ?_
  rintro l ⟨hd1, hd2⟩
  refine fnW (b := bodyOf Tryz.f23) (fn := Tryz.f23) ftOk nofOk (LT := [([0, 1, 0, 1, 1, 1, 1], (unD1 l).at (0 : Nat)), ([0, 1, 0, 1, 1, 1, 1, 1, 1], (unD2 l).at (0 : Nat))]) 100 (LTok.cons (fun fr H K hk => LoopD.ok (un_body1 l) hk) (LTok.cons (fun fr H K hk => LoopD.ok (un_body2 l) hk) LTok.nil)) (by kernel_rfl) (by kernel_rfl) rfl ?_
  refine of_eq (q := unR3 l) (by kernel_rfl) ?_
  exact un_r3 l hd2 hd1
set_option maxRecDepth 100000 in
theorem unTabs_ok : TabOk Tryz.prog unTabs := by
  refine ⟨fun f s h => ?_, fun f s h => by cases h⟩
  unfold unTabs at h
  simp only at h
  split at h
  · cases h; exact plain_spec
  · cases h; exact un_spec
  · cases h
set_option maxRecDepth 100000 in
theorem unimp_spec : SpecOk Tryz.prog 10 unimpS := by
  refine specF_ok ⟨Tryz.f10, by kernel_rfl, rfl, by kernel_rfl⟩ (fun _ => rfl) fun args l ha hd => ?_
  rw [dec1_ok ha]
  refine ⟨rfl, fnW (b := bodyOf Tryz.f10) (fn := Tryz.f10) ftOk unTabs_ok (LT := []) 100 LTok.nil (by kernel_rfl) (by kernel_rfl) rfl ?_⟩
  refine of_eq (q := unR4 l) (by kernel_rfl) ?_
  exact un_r4 l hd.2 hd.1
set_option maxRecDepth 100000 in
theorem as_body (l : List UInt8) : (asciiD l).Body Tryz.prog (sub (bodyOf Tryz.f9) [0, 0, 1, 0, 1, 1]) := by
  rintro ⟨k, out⟩ ⟨h1, h2, h3⟩
  refine exW_ok (root := bodyOf Tryz.f9) ftOk nofOk LTok.nil 100 (p := [0, 0, 1, 0, 1, 1]) ?_ rfl
  refine of_eq (q := asR1 l k out) (by kernel_rfl) ?_
  exact as_r1 l k out h1 h2 h3
set_option maxRecDepth 100000 in
theorem as_spec : SpecOk Tryz.prog 9 cutS := by
  refine specN_ok ⟨Tryz.f9, by kernel_rfl, rfl, by kernel_rfl⟩ (fun _ => rfl) fun args l ha _ => ?_
  rw [dec1_ok ha]
  refine ⟨rfl, fnW (b := bodyOf Tryz.f9) (fn := Tryz.f9) ftOk nofOk (LT := [([0, 1, 0, 1, 1], (asciiD l).at ((0, []) : Nat × List UInt8))]) 100 (LTok.cons (fun fr H K hk => LoopD.ok (as_body l) hk) LTok.nil) (by kernel_rfl) (by kernel_rfl) rfl ?_⟩
  refine of_eq (q := asR2 l) (by kernel_rfl) ?_
  exact as_r2 l
set_option maxRecDepth 100000 in
theorem uw_body (htab : TabOk Tryz.prog uwTabs) (l : List UInt8) (h2 : l.length ≤ 1000000) : (uwD l).Body Tryz.prog (sub (bodyOf Tryz.f4) [0, 0, 1, 0, 1, 1, 1]) := by
  intro k h1
  refine exW_ok (root := bodyOf Tryz.f4) ftOk htab LTok.nil 100 (p := [0, 0, 1, 0, 1, 1, 1]) ?_ rfl
  refine of_eq (q := uwR1 l k) (by kernel_rfl) ?_
  exact uw_r1 l k h1 h2
set_option maxRecDepth 100000 in
/-- FnUnescapeWords answers true. -/
theorem uw_calls (htab : TabOk Tryz.prog uwTabs) (l : List UInt8) : ∀ (w0 : World) (F0 : Fp) (ι : Inj) (w : World) (vs : List Value), Inv w0 F0 ι H0 w → DenL ι [.str l] vs → Calls Tryz.prog 4 vs.toArray w (PostV w0 F0 noι trueK) := by
  refine fnW (b := bodyOf Tryz.f4) (fn := Tryz.f4) ftOk htab (LT := [([0, 1, 0, 1, 1, 1], fun fr H K => ∃ S, Ok7 S ∧ (uwD S).at (0 : Nat) fr H K)]) 100 (LTok.cons (fun fr H K hk => by obtain ⟨S, h7, hk⟩ := hk; exact LoopD.ok (uw_body htab S (Nat.le_trans h7.2 (by omega))) hk) LTok.nil) (by kernel_rfl) (by kernel_rfl) rfl ?_
  refine of_eq (q := uwR2 l) (by kernel_rfl) ?_
  exact uw_r2 l
set_option maxRecDepth 100000 in
theorem uw_all (hU : ∀ w : World, Syms.good w → Lib.Utf8Tabs 0 1 w) {ρ : Shelf.Ren} (L : Lays7.n32 Tryz.prog ρ) (e1 : ρ.f 32 = 28) (e2 : ρ.g 2 = 0) (e3 : ρ.g 3 = 1) (l : List UInt8) : ∀ (w0 : World) (F0 : Fp) (ι : Inj) (w : World) (vs : List Value), Inv w0 F0 ι H0 w → DenL ι [.str l] vs → Calls Tryz.prog 4 vs.toArray w (PostV w0 F0 noι trueK) := by
  have h6 := imp_all hU L e1 e2 e3
  refine uw_calls ⟨fun f s h => ?_, fun f s h => by cases h⟩ l
  unfold uwTabs at h
  simp only at h
  split at h
  · cases h; exact h6
  · cases h; exact punct_spec
  · cases h; exact live_spec
  · cases h; exact as_spec
  · cases h; exact unimp_spec
  · cases h
#print axioms uw_all
end T
