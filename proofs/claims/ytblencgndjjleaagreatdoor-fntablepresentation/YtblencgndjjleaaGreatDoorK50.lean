/- Lemmas of this claim; the last text says what is proved. -/
import Derived.Test.YtblencgndjjleaaGreatDoorRows
import GoSem.ClaimGoes
set_option linter.all false
namespace Go.Proofs.YtblencgndjjleaaGreatDoor
open Go
theorem x_i:false=Rows.fnTablePresentationRow.goesBy Tryz.pinned.checked.prog:=by kernel_rfl
end Go.Proofs.YtblencgndjjleaaGreatDoor

