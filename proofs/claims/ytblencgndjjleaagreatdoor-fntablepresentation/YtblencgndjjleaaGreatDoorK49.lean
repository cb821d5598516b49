/- Lemmas of this claim; the last text says what is proved. -/
import Derived.Test.YtblencgndjjleaaGreatDoorRows
import Derived.ProofKit
import Derived.LaidMore
import Derived.Lay
set_option linter.all false
namespace Go.Proofs.YtblencgndjjleaaGreatDoor
set_option maxHeartbeats 4000000 in
theorem t_m:joinedFacts Tryz.checked.prog 3 Go.Proofs.Tryz.f3 Rows.fnTablePresentationSpec Rows.fnTablePresentationRow=true:=by
 unfold joinedFacts
 simp only[Bool.and_eq_true]
 refine⟨⟨⟨⟨⟨⟨⟨⟨⟨⟨⟨⟨⟨⟨⟨⟨⟨⟨⟨⟨⟨⟨⟨⟨⟨⟨⟨⟨⟨⟨⟨?_,?_⟩,?_⟩,?_⟩,?_⟩,?_⟩,?_⟩,?_⟩,?_⟩,?_⟩,?_⟩,?_⟩,?_⟩,?_⟩,?_⟩,?_⟩,?_⟩,?_⟩,?_⟩,?_⟩,?_⟩,?_⟩,?_⟩,?_⟩,?_⟩,?_⟩,?_⟩,?_⟩,?_⟩,?_⟩,?_⟩,?_⟩<;>as_aux_lemma=>kernel_rfl
theorem p_S(os:Os)(args:Array Value):laidMet Tryz.prog Rows.fnTablePresentationRow.laid ((World.laidAll Tryz.prog os Rows.fnTablePresentationRow.laid).forCall (fun _ _=>0) ⟨#[],args,[]⟩).memory:=
 laidMet_laidAll args (by kernel_rfl) (by kernel_rfl)
end Go.Proofs.YtblencgndjjleaaGreatDoor

