/- A part of the proof of this claim: lemmas of its own; what is proved, and on what conditions, the last text says. -/
import Derived.Test.YtfpckklhljbelaaGreatDoorEscD
set_option linter.all false
open Go Go.Sx Go.Proofs
namespace T
variable [Syms]
def escR1 (l : List UInt8) (k : Nat) : Prop :=
  br (decide (Int.ofNat k < Int.ofNat (List.length l)))
  (gd (decide (Int.ofNat k < Int.ofNat (List.length l)))
    (gd (Nat.blt k (List.length l))
      (br (Int.ofNat (UInt8.toNat (List.getD l k (0 : UInt8))) == Int.ofNat (0 : Nat))
        (gd
          (Nat.ble (List.length (escF (List.take k l))) (List.length (escF (List.take k l))) &&
            (Nat.ble (List.length (escF (List.take k l)) + (1 : Nat) + (1 : Nat) + (1 : Nat)) (140737488355328 : Nat) && true))
          (∃ (j' : Nat),
            (j' ≤ List.length l ∧ List.length l ≤ (1000000 : Nat) ∧ ∀ (b : UInt8), b ∈ l → b ≠ (0 : UInt8)) ∧
              List.length l - j' < List.length l - k ∧
                (0 : Nat) = (0 : Nat) ∧
                  (0 : Nat) = (0 : Nat) ∧
                    List.length l = List.length l ∧
                      (0 : Nat) = (0 : Nat) ∧
                        List.length (escF (List.take k l)) + (1 : Nat) + (1 : Nat) + (1 : Nat) = List.length (escF (List.take j' l)) ∧
                          Value.int IntKind.i64 (IntKind.wrap IntKind.i64 (Int.ofNat (k + (1 : Nat)))) = Value.int IntKind.i64 (Int.ofNat j') ∧
                            ([] : List UInt8) = [] ∧
                              (11 : Nat) ≤ (11 : Nat) ∧
                                Value.int IntKind.i32 (Int.ofNat (92 : Nat)) = Value.int IntKind.i32 (Int.ofNat (92 : Nat)) ∧
                                  Value.int IntKind.i32 (Int.ofNat (42 : Nat)) = Value.int IntKind.i32 (Int.ofNat (42 : Nat)) ∧
                                    Value.int IntKind.i32 (Int.ofNat (95 : Nat)) = Value.int IntKind.i32 (Int.ofNat (95 : Nat)) ∧
                                      Value.int IntKind.i32 (Int.ofNat (45 : Nat)) = Value.int IntKind.i32 (Int.ofNat (45 : Nat)) ∧
                                        Value.int IntKind.i32 (Int.ofNat (43 : Nat)) = Value.int IntKind.i32 (Int.ofNat (43 : Nat)) ∧
                                          Value.int IntKind.i32 (Int.ofNat (46 : Nat)) = Value.int IntKind.i32 (Int.ofNat (46 : Nat)) ∧
                                            Value.int IntKind.i32 (Int.ofNat (62 : Nat)) = Value.int IntKind.i32 (Int.ofNat (62 : Nat)) ∧
                                              Value.int IntKind.i32 (Int.ofNat (124 : Nat)) = Value.int IntKind.i32 (Int.ofNat (124 : Nat)) ∧
                                                Value.int IntKind.i32 (Int.ofNat (36 : Nat)) = Value.int IntKind.i32 (Int.ofNat (36 : Nat)) ∧
                                                  Value.int IntKind.i32 (Int.ofNat (35 : Nat)) = Value.int IntKind.i32 (Int.ofNat (35 : Nat)) ∧
                                                    Value.int IntKind.i32 (Int.ofNat (61 : Nat)) = Value.int IntKind.i32 (Int.ofNat (61 : Nat)) ∧
                                                      Value.int IntKind.i32 (Int.ofNat (91 : Nat)) = Value.int IntKind.i32 (Int.ofNat (91 : Nat)) ∧
                                                        Value.int IntKind.i32 (Int.ofNat (93 : Nat)) = Value.int IntKind.i32 (Int.ofNat (93 : Nat)) ∧
                                                          Value.int IntKind.i32 (Int.ofNat (40 : Nat)) = Value.int IntKind.i32 (Int.ofNat (40 : Nat)) ∧
                                                            Value.int IntKind.i32 (Int.ofNat (41 : Nat)) = Value.int IntKind.i32 (Int.ofNat (41 : Nat)) ∧
                                                              Value.int IntKind.i32 (Int.ofNat (33 : Nat)) = Value.int IntKind.i32 (Int.ofNat (33 : Nat)) ∧
                                                                Value.int IntKind.i32 (Int.ofNat (126 : Nat)) = Value.int IntKind.i32 (Int.ofNat (126 : Nat)) ∧
                                                                  Value.int IntKind.i32 (Int.ofNat (96 : Nat)) = Value.int IntKind.i32 (Int.ofNat (96 : Nat)) ∧
                                                                    Value.int IntKind.i32 (Int.ofNat (34 : Nat)) =
                                                                        Value.int IntKind.i32 (Int.ofNat (34 : Nat)) ∧
                                                                      Value.int IntKind.i32 (Int.ofNat (39 : Nat)) =
                                                                          Value.int IntKind.i32 (Int.ofNat (39 : Nat)) ∧
                                                                        l = l ∧
                                                                          (0 : Nat) ≤ (0 : Nat) ∧
                                                                            List.take (List.length (escF (List.take k l))) (escF (List.take k l)) ++
                                                                                  [(239 : UInt8), (191 : UInt8), (189 : UInt8)] =
                                                                                escF (List.take j' l) ∧
                                                                              True))
        (gd (decide (Int.ofNat k ≤ Int.ofNat (List.length l)) && decide (Int.ofNat (List.length l) ≤ Int.ofNat (List.length l)))
          (Nat.le (k + (1 : Nat)) (List.length l) ∧
            k = k ∧
              List.length l - k = List.length l - k ∧
                l = l ∧
                  (0 : Nat) ≤ (0 : Nat) ∧
                    ∀ (x : Int),
                      (∀ (b : UInt8),
                          List.get?Internal l k = some b →
                            (UInt8.toNat b < (128 : Nat) → x = Int.ofNat (UInt8.toNat b)) ∧ ((128 : Nat) ≤ UInt8.toNat b → Int.ofNat (128 : Nat) ≤ x)) →
                        br
                          (x == Int.ofNat (92 : Nat) ||
                            (x == Int.ofNat (42 : Nat) ||
                              (x == Int.ofNat (95 : Nat) ||
                                (x == Int.ofNat (45 : Nat) ||
                                  (x == Int.ofNat (43 : Nat) ||
                                    (x == Int.ofNat (46 : Nat) ||
                                      (x == Int.ofNat (62 : Nat) ||
                                        (x == Int.ofNat (124 : Nat) ||
                                          (x == Int.ofNat (36 : Nat) ||
                                            (x == Int.ofNat (35 : Nat) ||
                                              (x == Int.ofNat (61 : Nat) ||
                                                (x == Int.ofNat (91 : Nat) ||
                                                  (x == Int.ofNat (93 : Nat) ||
                                                    (x == Int.ofNat (40 : Nat) ||
                                                      (x == Int.ofNat (41 : Nat) ||
                                                        (x == Int.ofNat (33 : Nat) ||
                                                          (x == Int.ofNat (126 : Nat) ||
                                                            (x == Int.ofNat (96 : Nat) ||
                                                              (x == Int.ofNat (34 : Nat) || (x == Int.ofNat (39 : Nat) || false))))))))))))))))))))
                          (gd (decide (Int.ofNat k < Int.ofNat (List.length l)))
                            (gd (Nat.blt k (List.length l))
                              (gd (decide (Int.ofNat (UInt8.toNat (List.getD l k (0 : UInt8))) < Int.ofNat (256 : Nat)) && true && true)
                                (gd
                                  (Nat.ble (List.length (escF (List.take k l))) (List.length (escF (List.take k l))) &&
                                    (Nat.ble (List.length (escF (List.take k l)) + (1 : Nat) + (1 : Nat)) (140737488355328 : Nat) && true))
                                  (∃ (j' : Nat),
                                    (j' ≤ List.length l ∧ List.length l ≤ (1000000 : Nat) ∧ ∀ (b : UInt8), b ∈ l → b ≠ (0 : UInt8)) ∧
                                      List.length l - j' < List.length l - k ∧
                                        (0 : Nat) = (0 : Nat) ∧
                                          (0 : Nat) = (0 : Nat) ∧
                                            List.length l = List.length l ∧
                                              (0 : Nat) = (0 : Nat) ∧
                                                List.length (escF (List.take k l)) + (1 : Nat) + (1 : Nat) = List.length (escF (List.take j' l)) ∧
                                                  Value.int IntKind.i64 (IntKind.wrap IntKind.i64 (Int.ofNat (k + (1 : Nat)))) =
                                                      Value.int IntKind.i64 (Int.ofNat j') ∧
                                                    ([] : List UInt8) = [] ∧
                                                      (11 : Nat) ≤ (11 : Nat) ∧
                                                        Value.int IntKind.i32 (Int.ofNat (92 : Nat)) = Value.int IntKind.i32 (Int.ofNat (92 : Nat)) ∧
                                                          Value.int IntKind.i32 (Int.ofNat (42 : Nat)) = Value.int IntKind.i32 (Int.ofNat (42 : Nat)) ∧
                                                            Value.int IntKind.i32 (Int.ofNat (95 : Nat)) = Value.int IntKind.i32 (Int.ofNat (95 : Nat)) ∧
                                                              Value.int IntKind.i32 (Int.ofNat (45 : Nat)) = Value.int IntKind.i32 (Int.ofNat (45 : Nat)) ∧
                                                                Value.int IntKind.i32 (Int.ofNat (43 : Nat)) = Value.int IntKind.i32 (Int.ofNat (43 : Nat)) ∧
                                                                  Value.int IntKind.i32 (Int.ofNat (46 : Nat)) = Value.int IntKind.i32 (Int.ofNat (46 : Nat)) ∧
                                                                    Value.int IntKind.i32 (Int.ofNat (62 : Nat)) =
                                                                        Value.int IntKind.i32 (Int.ofNat (62 : Nat)) ∧
                                                                      Value.int IntKind.i32 (Int.ofNat (124 : Nat)) =
                                                                          Value.int IntKind.i32 (Int.ofNat (124 : Nat)) ∧
                                                                        Value.int IntKind.i32 (Int.ofNat (36 : Nat)) =
                                                                            Value.int IntKind.i32 (Int.ofNat (36 : Nat)) ∧
                                                                          Value.int IntKind.i32 (Int.ofNat (35 : Nat)) =
                                                                              Value.int IntKind.i32 (Int.ofNat (35 : Nat)) ∧
                                                                            Value.int IntKind.i32 (Int.ofNat (61 : Nat)) =
                                                                                Value.int IntKind.i32 (Int.ofNat (61 : Nat)) ∧
                                                                              Value.int IntKind.i32 (Int.ofNat (91 : Nat)) =
                                                                                  Value.int IntKind.i32 (Int.ofNat (91 : Nat)) ∧
                                                                                Value.int IntKind.i32 (Int.ofNat (93 : Nat)) =
                                                                                    Value.int IntKind.i32 (Int.ofNat (93 : Nat)) ∧
                                                                                  Value.int IntKind.i32 (Int.ofNat (40 : Nat)) =
                                                                                      Value.int IntKind.i32 (Int.ofNat (40 : Nat)) ∧
                                                                                    Value.int IntKind.i32 (Int.ofNat (41 : Nat)) =
                                                                                        Value.int IntKind.i32 (Int.ofNat (41 : Nat)) ∧
                                                                                      Value.int IntKind.i32 (Int.ofNat (33 : Nat)) =
                                                                                          Value.int IntKind.i32 (Int.ofNat (33 : Nat)) ∧
                                                                                        Value.int IntKind.i32 (Int.ofNat (126 : Nat)) =
                                                                                            Value.int IntKind.i32 (Int.ofNat (126 : Nat)) ∧
                                                                                          Value.int IntKind.i32 (Int.ofNat (96 : Nat)) =
                                                                                              Value.int IntKind.i32 (Int.ofNat (96 : Nat)) ∧
                                                                                            Value.int IntKind.i32 (Int.ofNat (34 : Nat)) =
                                                                                                Value.int IntKind.i32 (Int.ofNat (34 : Nat)) ∧
                                                                                              Value.int IntKind.i32 (Int.ofNat (39 : Nat)) =
                                                                                                  Value.int IntKind.i32 (Int.ofNat (39 : Nat)) ∧
                                                                                                l = l ∧
                                                                                                  (0 : Nat) ≤ (0 : Nat) ∧
                                                                                                    List.take (List.length (escF (List.take k l)))
                                                                                                            (escF (List.take k l)) ++
                                                                                                          [(7 : UInt8),
                                                                                                            UInt8.ofNat
                                                                                                              (UInt8.toNat (List.getD l k (0 : UInt8)))] =
                                                                                                        escF (List.take j' l) ∧
                                                                                                      True)))))
                          (gd (decide (Int.ofNat k < Int.ofNat (List.length l)))
                            (gd (Nat.blt k (List.length l))
                              (gd (decide (Int.ofNat (UInt8.toNat (List.getD l k (0 : UInt8))) < Int.ofNat (256 : Nat)) && true && true)
                                (gd
                                  (Nat.ble (List.length (escF (List.take k l))) (List.length (escF (List.take k l))) &&
                                    (Nat.ble (List.length (escF (List.take k l)) + (1 : Nat)) (140737488355328 : Nat) && true))
                                  (∃ (j' : Nat),
                                    (j' ≤ List.length l ∧ List.length l ≤ (1000000 : Nat) ∧ ∀ (b : UInt8), b ∈ l → b ≠ (0 : UInt8)) ∧
                                      List.length l - j' < List.length l - k ∧
                                        (0 : Nat) = (0 : Nat) ∧
                                          (0 : Nat) = (0 : Nat) ∧
                                            List.length l = List.length l ∧
                                              (0 : Nat) = (0 : Nat) ∧
                                                List.length (escF (List.take k l)) + (1 : Nat) = List.length (escF (List.take j' l)) ∧
                                                  Value.int IntKind.i64 (IntKind.wrap IntKind.i64 (Int.ofNat (k + (1 : Nat)))) =
                                                      Value.int IntKind.i64 (Int.ofNat j') ∧
                                                    ([] : List UInt8) = [] ∧
                                                      (11 : Nat) ≤ (11 : Nat) ∧
                                                        Value.int IntKind.i32 (Int.ofNat (92 : Nat)) = Value.int IntKind.i32 (Int.ofNat (92 : Nat)) ∧
                                                          Value.int IntKind.i32 (Int.ofNat (42 : Nat)) = Value.int IntKind.i32 (Int.ofNat (42 : Nat)) ∧
                                                            Value.int IntKind.i32 (Int.ofNat (95 : Nat)) = Value.int IntKind.i32 (Int.ofNat (95 : Nat)) ∧
                                                              Value.int IntKind.i32 (Int.ofNat (45 : Nat)) = Value.int IntKind.i32 (Int.ofNat (45 : Nat)) ∧
                                                                Value.int IntKind.i32 (Int.ofNat (43 : Nat)) = Value.int IntKind.i32 (Int.ofNat (43 : Nat)) ∧
                                                                  Value.int IntKind.i32 (Int.ofNat (46 : Nat)) = Value.int IntKind.i32 (Int.ofNat (46 : Nat)) ∧
                                                                    Value.int IntKind.i32 (Int.ofNat (62 : Nat)) =
                                                                        Value.int IntKind.i32 (Int.ofNat (62 : Nat)) ∧
                                                                      Value.int IntKind.i32 (Int.ofNat (124 : Nat)) =
                                                                          Value.int IntKind.i32 (Int.ofNat (124 : Nat)) ∧
                                                                        Value.int IntKind.i32 (Int.ofNat (36 : Nat)) =
                                                                            Value.int IntKind.i32 (Int.ofNat (36 : Nat)) ∧
                                                                          Value.int IntKind.i32 (Int.ofNat (35 : Nat)) =
                                                                              Value.int IntKind.i32 (Int.ofNat (35 : Nat)) ∧
                                                                            Value.int IntKind.i32 (Int.ofNat (61 : Nat)) =
                                                                                Value.int IntKind.i32 (Int.ofNat (61 : Nat)) ∧
                                                                              Value.int IntKind.i32 (Int.ofNat (91 : Nat)) =
                                                                                  Value.int IntKind.i32 (Int.ofNat (91 : Nat)) ∧
                                                                                Value.int IntKind.i32 (Int.ofNat (93 : Nat)) =
                                                                                    Value.int IntKind.i32 (Int.ofNat (93 : Nat)) ∧
                                                                                  Value.int IntKind.i32 (Int.ofNat (40 : Nat)) =
                                                                                      Value.int IntKind.i32 (Int.ofNat (40 : Nat)) ∧
                                                                                    Value.int IntKind.i32 (Int.ofNat (41 : Nat)) =
                                                                                        Value.int IntKind.i32 (Int.ofNat (41 : Nat)) ∧
                                                                                      Value.int IntKind.i32 (Int.ofNat (33 : Nat)) =
                                                                                          Value.int IntKind.i32 (Int.ofNat (33 : Nat)) ∧
                                                                                        Value.int IntKind.i32 (Int.ofNat (126 : Nat)) =
                                                                                            Value.int IntKind.i32 (Int.ofNat (126 : Nat)) ∧
                                                                                          Value.int IntKind.i32 (Int.ofNat (96 : Nat)) =
                                                                                              Value.int IntKind.i32 (Int.ofNat (96 : Nat)) ∧
                                                                                            Value.int IntKind.i32 (Int.ofNat (34 : Nat)) =
                                                                                                Value.int IntKind.i32 (Int.ofNat (34 : Nat)) ∧
                                                                                              Value.int IntKind.i32 (Int.ofNat (39 : Nat)) =
                                                                                                  Value.int IntKind.i32 (Int.ofNat (39 : Nat)) ∧
                                                                                                l = l ∧
                                                                                                  (0 : Nat) ≤ (0 : Nat) ∧
                                                                                                    List.take (List.length (escF (List.take k l)))
                                                                                                            (escF (List.take k l)) ++
                                                                                                          [UInt8.ofNat
                                                                                                              (UInt8.toNat (List.getD l k (0 : UInt8)))] =
                                                                                                        escF (List.take j' l) ∧
                                                                                                      True))))))))))
  (∃ (x : Unit), True ∧ (0 : Nat) = (0 : Nat) ∧ List.length (escF (List.take k l)) = List.length (escF l) ∧ escF (List.take k l) = escF l ∧ True)

def escR2 (l : List UInt8) : Prop :=
  gd
  (decide (Int.ofNat (List.length l) ≤ Int.ofNat (281474976710656 : Nat)) &&
    (decide (Int.ofNat ((1 : Nat) * List.length l) ≤ Int.ofNat (281474976710656 : Nat)) && true))
  (((0 : Nat) ≤ List.length l ∧ List.length l ≤ (1000000 : Nat) ∧ ∀ (b : UInt8), b ∈ l → b ≠ (0 : UInt8)) ∧
    ((0 : Nat) = (0 : Nat) ∧
        (0 : Nat) = (0 : Nat) ∧
          List.length l = List.length l ∧
            (0 : Nat) = (0 : Nat) ∧
              (0 : Nat) = (0 : Nat) ∧
                Value.int IntKind.i64 (Int.ofNat (0 : Nat)) = Value.int IntKind.i64 (Int.ofNat (0 : Nat)) ∧
                  ([] : List UInt8) = [] ∧
                    (11 : Nat) ≤ (11 : Nat) ∧
                      Value.int IntKind.i32 (Int.ofNat (92 : Nat)) = Value.int IntKind.i32 (Int.ofNat (92 : Nat)) ∧
                        Value.int IntKind.i32 (Int.ofNat (42 : Nat)) = Value.int IntKind.i32 (Int.ofNat (42 : Nat)) ∧
                          Value.int IntKind.i32 (Int.ofNat (95 : Nat)) = Value.int IntKind.i32 (Int.ofNat (95 : Nat)) ∧
                            Value.int IntKind.i32 (Int.ofNat (45 : Nat)) = Value.int IntKind.i32 (Int.ofNat (45 : Nat)) ∧
                              Value.int IntKind.i32 (Int.ofNat (43 : Nat)) = Value.int IntKind.i32 (Int.ofNat (43 : Nat)) ∧
                                Value.int IntKind.i32 (Int.ofNat (46 : Nat)) = Value.int IntKind.i32 (Int.ofNat (46 : Nat)) ∧
                                  Value.int IntKind.i32 (Int.ofNat (62 : Nat)) = Value.int IntKind.i32 (Int.ofNat (62 : Nat)) ∧
                                    Value.int IntKind.i32 (Int.ofNat (124 : Nat)) = Value.int IntKind.i32 (Int.ofNat (124 : Nat)) ∧
                                      Value.int IntKind.i32 (Int.ofNat (36 : Nat)) = Value.int IntKind.i32 (Int.ofNat (36 : Nat)) ∧
                                        Value.int IntKind.i32 (Int.ofNat (35 : Nat)) = Value.int IntKind.i32 (Int.ofNat (35 : Nat)) ∧
                                          Value.int IntKind.i32 (Int.ofNat (61 : Nat)) = Value.int IntKind.i32 (Int.ofNat (61 : Nat)) ∧
                                            Value.int IntKind.i32 (Int.ofNat (91 : Nat)) = Value.int IntKind.i32 (Int.ofNat (91 : Nat)) ∧
                                              Value.int IntKind.i32 (Int.ofNat (93 : Nat)) = Value.int IntKind.i32 (Int.ofNat (93 : Nat)) ∧
                                                Value.int IntKind.i32 (Int.ofNat (40 : Nat)) = Value.int IntKind.i32 (Int.ofNat (40 : Nat)) ∧
                                                  Value.int IntKind.i32 (Int.ofNat (41 : Nat)) = Value.int IntKind.i32 (Int.ofNat (41 : Nat)) ∧
                                                    Value.int IntKind.i32 (Int.ofNat (33 : Nat)) = Value.int IntKind.i32 (Int.ofNat (33 : Nat)) ∧
                                                      Value.int IntKind.i32 (Int.ofNat (126 : Nat)) = Value.int IntKind.i32 (Int.ofNat (126 : Nat)) ∧
                                                        Value.int IntKind.i32 (Int.ofNat (96 : Nat)) = Value.int IntKind.i32 (Int.ofNat (96 : Nat)) ∧
                                                          Value.int IntKind.i32 (Int.ofNat (34 : Nat)) = Value.int IntKind.i32 (Int.ofNat (34 : Nat)) ∧
                                                            Value.int IntKind.i32 (Int.ofNat (39 : Nat)) = Value.int IntKind.i32 (Int.ofNat (39 : Nat)) ∧
                                                              l = l ∧ (0 : Nat) ≤ (0 : Nat) ∧ ([] : List UInt8) = [] ∧ List.length l * (1 : Nat) ≤ List.length l ∧ True) ∧
      ∀ (x : Unit), True → escF l = escF l ∧ List.length (escF l) = List.length (escF l) ∧ True)
theorem escF_app (a b : List UInt8) : escF (a ++ b) = escF a ++ escF b := by simp [escF]
theorem escF_le (l : List UInt8) : (escF l).length ≤ 2 * l.length := by
  induction l with
  | nil => exact Nat.le_refl _
  | cons x r ih =>
    show ((esc1 x) ++ escF r).length ≤ _
    rw [List.length_append, List.length_cons]
    have : (esc1 x).length ≤ 2 := by unfold esc1; cases isMd x <;> simp
    omega
theorem take_len {α : Type} (l : List α) : List.take l.length l = l := List.take_length
theorem escF_step {l : List UInt8} {k : Nat} (hk : k < l.length) : escF (l.take (k + 1)) = escF (l.take k) ++ esc1 (l.getD k 0) := by
  have e : l.take (k + 1) = l.take k ++ [l.getD k 0] := by
    rw [List.take_add_one]; simp [hk]
  rw [e, escF_app]
  simp [escF]
theorem wrap_ok {k : Nat} (h : k < 10000000) : IntKind.wrap IntKind.i64 (Int.ofNat k) = Int.ofNat k := by
  have e : Int.ofNat k % 2 ^ 64 = Int.ofNat k := Int.emod_eq_of_lt (Int.natCast_nonneg _) (by show (k : Int) < _; omega)
  simp only [IntKind.wrap, IntKind.bits, IntKind.signed, e]
  simp
  omega
def mdI (x : Int) : Bool := x == Int.ofNat (92 : Nat) || (x == Int.ofNat (42 : Nat) || (x == Int.ofNat (95 : Nat) || (x == Int.ofNat (45 : Nat) || (x == Int.ofNat (43 : Nat) || (x == Int.ofNat (46 : Nat) || (x == Int.ofNat (62 : Nat) || (x == Int.ofNat (124 : Nat) || (x == Int.ofNat (36 : Nat) || (x == Int.ofNat (35 : Nat) || (x == Int.ofNat (61 : Nat) || (x == Int.ofNat (91 : Nat) || (x == Int.ofNat (93 : Nat) || (x == Int.ofNat (40 : Nat) || (x == Int.ofNat (41 : Nat) || (x == Int.ofNat (33 : Nat) || (x == Int.ofNat (126 : Nat) || (x == Int.ofNat (96 : Nat) || (x == Int.ofNat (34 : Nat) || (x == Int.ofNat (39 : Nat) || false)))))))))))))))))))
theorem mdI_nat (n : Nat) : mdI (Int.ofNat n) = mdL.contains n := by
  have h : ∀ m : Nat, (Int.ofNat n == Int.ofNat m) = (n == m) := fun m => by
    by_cases e : n = m
    · subst e; simp
    · have : ¬ Int.ofNat n = Int.ofNat m := fun h => e (Int.ofNat.inj h)
      rw [beq_eq_false_iff_ne.2 this, beq_eq_false_iff_ne.2 e]
  simp only [mdI, h, mdL, List.contains, List.elem]
  rfl
theorem mdI_of {b : UInt8} {x : Int} (h : (UInt8.toNat b < (128 : Nat) → x = Int.ofNat (UInt8.toNat b)) ∧ ((128 : Nat) ≤ UInt8.toNat b → Int.ofNat (128 : Nat) ≤ x)) : mdI x = isMd b := by
  rcases Nat.lt_or_ge b.toNat 128 with hb | hb
  · rw [h.1 hb, mdI_nat]; rfl
  · have h2 : (128 : Int) ≤ x := h.2 hb
    have e1 : mdI x = false := by
      obtain ⟨n, rfl⟩ : ∃ n : Nat, x = Int.ofNat n := ⟨x.toNat, by simp; omega⟩
      have : 128 ≤ n := Int.ofNat_le.1 h2
      rw [mdI_nat]
      simp only [mdL, List.contains_eq_mem, decide_eq_false_iff_not]
      intro hm
      simp at hm
      omega
    have e2 : isMd b = false := by
      simp only [isMd, mdL, List.contains_eq_mem, decide_eq_false_iff_not]
      intro hm
      simp at hm
      omega
    rw [e1, e2]
theorem esc_r1 (l : List UInt8) (k : Nat) (h1 : k ≤ l.length) (h2 : l.length ≤ 1000000) (h3 : ∀ b ∈ l, b ≠ 0) : escR1 l k := by
  unfold escR1
  have hle := escF_le (l.take k)
  have hl : (l.take k).length ≤ 1000000 := by rw [List.length_take]; omega
  simp only [gd_iff, br_iff, blt_iff, blt_iff', ble_iff, Bool.and_eq_true, decide_eq_true_eq, and_true, true_and, Nat.le_refl, take_len]
  refine ⟨fun hk => ?_, fun hk => ?_⟩
  · have hk' : k < l.length := Int.ofNat_lt.1 hk
    have hst := escF_step hk'
    have hg : l[k]? = some (l.getD k 0) := by simp [hk']
    have hm : l.getD k 0 ∈ l := by
      have : l.getD k 0 = l[k] := by simp [hk']
      rw [this]; exact List.getElem_mem _
    refine ⟨hk, hk', fun h0 => ?_, fun _ => ⟨⟨Int.ofNat_le.2 h1, Int.ofNat_le.2 (Nat.le_refl _)⟩, hk', fun x hx => ?_⟩⟩
    · exact absurd (UInt8.toNat_inj.1 (Int.ofNat.inj (eq_of_beq h0))) (h3 _ hm)
    · have hx := mdI_of (hx _ hg)
      have hlt : Int.ofNat (UInt8.toNat (List.getD l k (0 : UInt8))) < Int.ofNat 256 := Int.ofNat_lt.2 (UInt8.toNat_lt _)
      refine ⟨fun he => ⟨hk, hk', hlt, by omega, k + 1, ⟨hk', h2, h3⟩, by omega, ?_⟩, fun he => ⟨hk, hk', hlt, by omega, k + 1, ⟨hk', h2, h3⟩, by omega, ?_⟩⟩
      · have e : esc1 (l.getD k 0) = [7, l.getD k 0] := by
          have he : mdI x = true := he
          rw [esc1, ← hx, he]; rfl
        rw [e] at hst
        refine ⟨by rw [hst]; simp, by rw [wrap_ok (by omega)], by rw [hst, UInt8.ofNat_toNat]⟩
      · have e : esc1 (l.getD k 0) = [l.getD k 0] := by
          have he : mdI x = false := he
          rw [esc1, ← hx, he]; rfl
        rw [e] at hst
        refine ⟨by rw [hst]; simp, by rw [wrap_ok (by omega)], by rw [hst, UInt8.ofNat_toNat]⟩
  · have hk : ¬ Int.ofNat k < Int.ofNat l.length := of_decide_eq_false hk
    have hk' : ¬ k < l.length := fun h => hk (Int.ofNat_lt.2 h)
    have e : l.take k = l := List.take_of_length_le (by omega)
    rw [e]
    simp
theorem esc_r2 (l : List UInt8) (h2 : l.length ≤ 1000000) (h3 : ∀ b ∈ l, b ≠ 0) : escR2 l := by
  unfold escR2
  simp only [gd_iff, Bool.and_eq_true, decide_eq_true_eq, and_true, true_and, Nat.le_refl, take_len, implies_true]
  exact ⟨⟨Int.ofNat_le.2 (by omega), Int.ofNat_le.2 (by omega)⟩, ⟨⟨Nat.zero_le _, h2, h3⟩, by show _ * 1 ≤ _; omega⟩⟩
set_option maxRecDepth 100000 in
theorem esc_body (htab : TabOk Tryz.prog escTabs) (l : List UInt8) : (escD l).Body Tryz.prog (sub (bodyOf Tryz.f20) [0, 0, 1, 0, 1, 1, 1]) := by
  rintro k ⟨h1, h2, h3⟩
  refine exW_ok (root := bodyOf Tryz.f20) ftOk htab LTok.nil 100 (p := [0, 0, 1, 0, 1, 1, 1]) ?_ rfl
  refine of_eq (q := escR1 l k) (by kernel_rfl) ?_
  exact esc_r1 l k h1 h2 h3
set_option maxRecDepth 100000 in
theorem esc_spec (htab : TabOk Tryz.prog escTabs) : SpecOk Tryz.prog 20 escS.spec := by
  refine ownS_ok ⟨Tryz.f20, by kernel_rfl, rfl, by kernel_rfl⟩ ?_
  rintro l ⟨hd1, hd2⟩
  refine fnW (b := bodyOf Tryz.f20) (fn := Tryz.f20) ftOk htab (LT := [([0, 1, 0, 1, 1, 1], (escD l).at (0 : Nat))]) 100 (LTok.cons (fun fr H K hk => LoopD.ok (esc_body htab l) hk) LTok.nil) (by kernel_rfl) (by kernel_rfl) rfl ?_
  refine of_eq (q := escR2 l) (by kernel_rfl) ?_
  exact esc_r2 l hd2 hd1
end T
