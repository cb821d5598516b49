/- A part of the proof of this claim: lemmas of its own; what is proved, and on what conditions, the last text says. -/
import Derived.Test.YtfpckklhljbelaaGreatDoorImpP
import Derived.Test.YtfpckklhljbelaaGreatDoorLvP
set_option linter.all false
open Go Go.Sx Go.Proofs
namespace T
variable [Syms]
set_option maxRecDepth 100000 in
theorem imp_all (hU : ∀ w : World, Syms.good w → Lib.Utf8Tabs 0 1 w) {ρ : Shelf.Ren} (L : Lays7.n32 Tryz.prog ρ) (e1 : ρ.f 32 = 28) (e2 : ρ.g 2 = 0) (e3 : ρ.g 3 = 1) : SpecOk Tryz.prog 6 impS := by
  have h28 := dec_spec hU L e1 e2 e3
  have he : TabOk Tryz.prog escTabs := by
    refine ⟨fun f s h => ?_, fun f s h => by cases h⟩
    unfold escTabs at h
    simp only at h
    split at h
    · cases h; exact h28
    · cases h
  have h20 := esc_spec he
  have hi : TabOk Tryz.prog impTabs := by
    refine ⟨fun f s h => ?_, fun f s h => by cases h⟩
    unfold impTabs at h
    simp only at h
    split at h
    · cases h; exact plain_spec
    · cases h; exact h20
    · cases h
  exact imp_spec hi
set_option maxRecDepth 100000 in
theorem fe_all (hU : ∀ w : World, Syms.good w → Lib.Utf8Tabs 0 1 w) {ρ : Shelf.Ren} (L : Lays7.n32 Tryz.prog ρ) (e1 : ρ.f 32 = 28) (e2 : ρ.g 2 = 0) (e3 : ρ.g 3 = 1) (l : List UInt8) : ∀ (w0 : World) (F0 : Fp) (ι : Inj) (w : World) (vs : List Value), Inv w0 F0 ι H0 w → DenL ι [.str l] vs → Calls Tryz.prog 3 vs.toArray w (PostV w0 F0 noι trueK) := by
  have h6 := imp_all hU L e1 e2 e3
  refine fe_calls ⟨fun f s h => ?_, fun f s h => by cases h⟩ l
  unfold feTabs at h
  simp only at h
  split at h
  · cases h; exact cut_spec
  · cases h; exact h6
  · cases h; exact punct_spec
  · cases h; exact live_spec
  · cases h
#print axioms fe_all
end T
