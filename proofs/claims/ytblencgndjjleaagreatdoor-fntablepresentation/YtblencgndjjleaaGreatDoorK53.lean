/- Lemmas of this claim; the last text says what is proved. -/
import Derived.Test.YtblencgndjjleaaGreatDoorK51
set_option linter.all false
namespace Go.Proofs.YtblencgndjjleaaGreatDoor
open Go
theorem G_A:∀os tape,(DataW.laidRun Tryz.prog (varsWorld Tryz.prog 400 (varsId Tryz.prog) os tape).memory 8 (wsL.map (·.1))).map (fun x=>decide x.2.Nodup&&laidRowsB Tryz.prog (varsWorld Tryz.prog 400 (varsId Tryz.prog) os tape).memory x.2)=some true:=fun _ _=>by kernel_rfl
end Go.Proofs.YtblencgndjjleaaGreatDoor

