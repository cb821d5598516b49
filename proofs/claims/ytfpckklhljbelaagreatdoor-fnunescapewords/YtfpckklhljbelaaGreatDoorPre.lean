/- A part of the proof of this claim: lemmas of its own; what is proved, and on what conditions, the last text says. -/
import Derived.Test.YtfpckklhljbelaaGreatDoorSxO
import Derived.Test.YtfpckklhljbelaaGreatDoorProg
set_option linter.all false
open Go Go.Sx Go.Proofs
namespace T
theorem namesOk : (Tryz.prog.funcs.toList.all fun fn => !(fn.name == "runtime.NumGoroutine")) = true := by kernel_rfl
noncomputable def bodyOf (f : Func) : Code := f.body.getD .skip
noncomputable def ft : FuncId → Option Func := fun f => Tryz.prog.funcs[f]?
theorem ftOk : FtOk Tryz.prog ft := by
  intro f fn h
  refine ⟨h, ?_⟩
  have h1 := List.all_eq_true.1 namesOk fn
  have h2 : fn ∈ Tryz.prog.funcs.toList := by
    have h : Tryz.prog.funcs[f]? = some fn := h
    rw [← Array.getElem?_toList] at h
    exact List.mem_of_getElem? h
  simpa using h1 h2
variable [Syms]
def nof : Tabs := ⟨fun _ => none, fun _ => none⟩
theorem nofOk : TabOk Tryz.prog T.nof := { c := fun _ _ h => (by cases h), d := fun _ _ h => (by cases h) }
end T
