/- A part of the proof of this claim: lemmas of its own; what is proved, and on what conditions, the last text says. -/
import Derived.Test.YtfpckklhljbelaaGreatDoorPlP
set_option linter.all false
open Go Go.Sx Go.Proofs
namespace T
variable [Syms]
set_option maxRecDepth 1000000 in
theorem live_spec : SpecOk Tryz.prog 8 liveS := by
  refine specF_ok ⟨Tryz.f8, by kernel_rfl, rfl, by kernel_rfl⟩ (fun _ => rfl) fun args n ha _ => ?_
  rw [dec0_ok ha]
  refine ⟨rfl, fnW (b := bodyOf Tryz.f8) (fn := Tryz.f8) ftOk nofOk (LT := []) 1000 LTok.nil (by kernel_rfl) (by kernel_rfl) rfl ?_⟩
  refine of_eq (q := AVal.lit (.bool true) = AVal.lit (.bool true)) (by kernel_rfl) rfl
end T
