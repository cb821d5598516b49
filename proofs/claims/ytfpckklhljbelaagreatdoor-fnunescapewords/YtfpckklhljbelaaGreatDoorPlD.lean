/- A part of the proof of this claim: lemmas of its own; what is proved, and on what conditions, the last text says. -/
import Derived.Test.YtfpckklhljbelaaGreatDoorFeP
set_option linter.all false
open Go Go.Sx Go.Proofs
namespace T
variable [Syms]
def plainB : List (Nat × ABlk) := [(0, .row convRow 57 (.n 11)), (1, .map (mdEs 0 mdL) 20)]
def plainS : Go.Sx.Spec := fun args H K => args = [] ∧ H = H0 ∧ K (.ptr 0 0) (hpOf plainB 2 [])
def plainK : AVal → AHeap → Prop := fun v H => entA (frOf 1 [(0, v)]) H 1 [(0, .ptr 0 0)] plainB 2 []
end T
