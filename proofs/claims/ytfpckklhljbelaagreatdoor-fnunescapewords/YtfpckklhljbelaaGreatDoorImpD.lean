/- A part of the proof of this claim: lemmas of its own; what is proved, and on what conditions, the last text says. -/
import Derived.Test.YtfpckklhljbelaaGreatDoorPlP
set_option linter.all false
open Go Go.Sx Go.Proofs
namespace T
variable [Syms]
def impTabs : Tabs := ⟨fun f => match f with
  | 11 => some plainS
  | 20 => some escS.spec
  | _ => none, fun _ => none⟩
end T
