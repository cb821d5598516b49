/- Lemmas of this claim; the last text says what is proved. -/
import Derived.Test.YtblencgndjjleaaGreatDoorK51
set_option linter.all false
namespace Go.Proofs.YtblencgndjjleaaGreatDoor
open Go
theorem G_z:∀os tape,(DataW.laidRun Tryz.prog (varsWorld Tryz.prog 400 (varsId Tryz.prog) os tape).memory 8 (wsL.map (·.1))).map (·.1)=some wsL:=fun _ _=>by kernel_rfl
end Go.Proofs.YtblencgndjjleaaGreatDoor

