/- A part of the proof of this claim: lemmas of its own; what is proved, and on what conditions, the last text says. -/
import Derived.Test.YtfpckklhljbelaaGreatDoorPlD
set_option linter.all false
open Go Go.Sx Go.Proofs
namespace T
variable [Syms]
def plEs : List Nat → Prop
  | [] => True
  | c :: r => Value.int IntKind.i32 (Int.ofNat c) = Value.int IntKind.i32 (Int.ofNat c) ∧ plEs r
theorem plEs_ok : ∀ l : List Nat, plEs l
  | [] => trivial
  | _ :: r => ⟨rfl, plEs_ok r⟩
def plR : Prop := (0 : Nat) = 0 ∧ ([] : List UInt8) = [] ∧ (11 : Nat) ≤ 11 ∧ plEs mdL
set_option maxRecDepth 1000000 in
theorem plain_spec : SpecOk Tryz.prog 11 plainS := by
  rintro args H K ⟨rfl, rfl, hK⟩
  refine anext_of_calls ⟨Tryz.f11, by kernel_rfl, rfl, by kernel_rfl⟩ ?_
  intro w0 F0 ι w vs hi hd
  have hrun : runFn Tryz.prog ft nof 1000 11 [] H0 plainK := of_eq (q := plR) (by kernel_rfl) ⟨rfl, rfl, Nat.le_refl _, plEs_ok _⟩
  refine Calls.mono (runFn_ok ftOk nofOk hrun w0 F0 ι w vs hi hd) fun e w' he => ?_
  cases e with
  | returned v =>
    obtain ⟨a, H', ι', hk, hda, hle, hinv⟩ := he
    have hfr : FRel ι' (frOf 1 [(0, a)]) { tmps := #[v], defers := [] } := by
      refine ⟨rfl, fun t => ?_⟩
      have e : Tr.get (frOf 1 [(0, a)]).t t = if t = 0 then some a else none := by
        show Tr.get (Tr.set .nil 0 (some a)) t = _
        rw [Tr.get_set, Tr.get_nil]
      unfold fget
      rw [e]
      by_cases h : t = 0
      · subst h; exact hda
      · rw [if_neg h]; exact .top
    have hds : DRel ι' H'.defs [] := by
      have hc := (gd_out hk).1
      simp only [Bool.and_eq_true] at hc
      cases hh : H'.defs with
      | nil => exact .nil
      | cons _ _ => rw [hh] at hc; cases hc.2
    obtain ⟨ι2, hi2, hf2, _⟩ := entA_ok hk w0 F0 ι' w' _ hinv hfr hds
    refine ⟨_, _, ι2, hK, hf2.t 0, fun i r hr => ?_, hi2⟩
    rw [hi.fresh i (Nat.zero_le _)] at hr
    cases hr
  | panicked _ => exact he.elim
  | outgrown => exact he.elim
end T
