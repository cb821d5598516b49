/- A part of the proof of this claim: lemmas of its own; what is proved, and on what conditions, the last text says. -/
import Derived.Test.YtfpckklhljbelaaGreatDoorImpD
set_option linter.all false
open Go Go.Sx Go.Proofs
namespace T
variable [Syms]
def impR (l : List UInt8) : Prop :=
  ([] : List AVal) = [] ∧
  H0 = H0 ∧
    ((∀ (b : UInt8), b ∈ l → b ≠ (0 : UInt8)) ∧ List.length l ≤ (1000000 : Nat)) ∧
      (0 : Nat) = (0 : Nat) ∧
        (0 : Nat) = (0 : Nat) ∧
          List.length l = List.length l ∧
            ([] : List UInt8) = [] ∧
              (11 : Nat) ≤ (11 : Nat) ∧
                Value.int IntKind.i32 (Int.ofNat (92 : Nat)) = Value.int IntKind.i32 (Int.ofNat (92 : Nat)) ∧
                  Value.int IntKind.i32 (Int.ofNat (42 : Nat)) = Value.int IntKind.i32 (Int.ofNat (42 : Nat)) ∧
                    Value.int IntKind.i32 (Int.ofNat (95 : Nat)) = Value.int IntKind.i32 (Int.ofNat (95 : Nat)) ∧
                      Value.int IntKind.i32 (Int.ofNat (45 : Nat)) = Value.int IntKind.i32 (Int.ofNat (45 : Nat)) ∧
                        Value.int IntKind.i32 (Int.ofNat (43 : Nat)) = Value.int IntKind.i32 (Int.ofNat (43 : Nat)) ∧
                          Value.int IntKind.i32 (Int.ofNat (46 : Nat)) = Value.int IntKind.i32 (Int.ofNat (46 : Nat)) ∧
                            Value.int IntKind.i32 (Int.ofNat (62 : Nat)) = Value.int IntKind.i32 (Int.ofNat (62 : Nat)) ∧
                              Value.int IntKind.i32 (Int.ofNat (124 : Nat)) = Value.int IntKind.i32 (Int.ofNat (124 : Nat)) ∧
                                Value.int IntKind.i32 (Int.ofNat (36 : Nat)) = Value.int IntKind.i32 (Int.ofNat (36 : Nat)) ∧
                                  Value.int IntKind.i32 (Int.ofNat (35 : Nat)) = Value.int IntKind.i32 (Int.ofNat (35 : Nat)) ∧
                                    Value.int IntKind.i32 (Int.ofNat (61 : Nat)) = Value.int IntKind.i32 (Int.ofNat (61 : Nat)) ∧
                                      Value.int IntKind.i32 (Int.ofNat (91 : Nat)) = Value.int IntKind.i32 (Int.ofNat (91 : Nat)) ∧
                                        Value.int IntKind.i32 (Int.ofNat (93 : Nat)) = Value.int IntKind.i32 (Int.ofNat (93 : Nat)) ∧
                                          Value.int IntKind.i32 (Int.ofNat (40 : Nat)) = Value.int IntKind.i32 (Int.ofNat (40 : Nat)) ∧
                                            Value.int IntKind.i32 (Int.ofNat (41 : Nat)) = Value.int IntKind.i32 (Int.ofNat (41 : Nat)) ∧
                                              Value.int IntKind.i32 (Int.ofNat (33 : Nat)) = Value.int IntKind.i32 (Int.ofNat (33 : Nat)) ∧
                                                Value.int IntKind.i32 (Int.ofNat (126 : Nat)) = Value.int IntKind.i32 (Int.ofNat (126 : Nat)) ∧
                                                  Value.int IntKind.i32 (Int.ofNat (96 : Nat)) = Value.int IntKind.i32 (Int.ofNat (96 : Nat)) ∧
                                                    Value.int IntKind.i32 (Int.ofNat (34 : Nat)) = Value.int IntKind.i32 (Int.ofNat (34 : Nat)) ∧
                                                      Value.int IntKind.i32 (Int.ofNat (39 : Nat)) = Value.int IntKind.i32 (Int.ofNat (39 : Nat)) ∧
                                                        l = l ∧
                                                          ∀ (x : List UInt8),
                                                            x = escF l →
                                                              gd (Nat.ble ((0 : Nat) + List.length x) (List.length x))
                                                                (AVal.str (List.take (List.length x) x) = AVal.str (escF l))
theorem imp_r (l : List UInt8) (h1 : ∀ b ∈ l, b ≠ 0) (h2 : l.length ≤ 1000000) : impR l := by
  unfold impR
  simp only [gd_iff, ble_iff, and_true, true_and, Nat.le_refl, take_len]
  refine ⟨⟨h1, h2⟩, fun x hx => ⟨by omega, by rw [hx]⟩⟩
set_option maxRecDepth 100000 in
theorem imp_spec (htab : TabOk Tryz.prog impTabs) : SpecOk Tryz.prog 6 impS := by
  refine specF_ok ⟨Tryz.f6, by kernel_rfl, rfl, by kernel_rfl⟩ (fun _ => rfl) fun args l ha hd => ?_
  rw [dec1_ok ha]
  refine ⟨rfl, fnW (b := bodyOf Tryz.f6) (fn := Tryz.f6) ftOk htab (LT := []) 100 LTok.nil (by kernel_rfl) (by kernel_rfl) rfl ?_⟩
  refine of_eq (q := impR l) (by kernel_rfl) ?_
  exact imp_r l hd.1 hd.2
end T
