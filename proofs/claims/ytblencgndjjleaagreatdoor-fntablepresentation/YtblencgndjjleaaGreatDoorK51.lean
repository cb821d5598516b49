/- Lemmas of this claim; the last text says what is proved. -/
import Derived.Test.YtblencgndjjleaaGreatDoorRows
import Derived.LaidByTextLater
import Derived.SevenTiedAt
set_option linter.all false
namespace Go.Proofs.YtblencgndjjleaaGreatDoor
open Go
abbrev wsL:List (String×DataW Unit):=[("unicode.White_Space",Rows.laid_unicode_White_Space)]
theorem G_w:Tryz.prog.worded (varsWordLater true)=true:=by kernel_rfl
theorem G_x:Tryz.prog.worded (varsWordLater !true)=false:=by kernel_rfl
theorem G_y:Tryz.prog.worded rootWordLater=true:=by kernel_rfl
theorem J_a:wsL.map (fun x=>Tryz.prog.kindOfLater x.1)=[LaidKind.listed].map some:=by kernel_rfl
theorem J_b:(Tryz.prog.funcNamed "gosem.cut.vars").isSome=true:=by kernel_rfl
theorem J_c:varsNamedLaterB Tryz.prog (varsId Tryz.prog) wsL=true:=by kernel_rfl
theorem J_d:∀os tape,varsDone Tryz.prog 400 (varsId Tryz.prog) os tape=true:=fun _ _=>by kernel_rfl
theorem J_e:(wsL.all fun x=>x.2.handleName?.isNone)=true:=by kernel_rfl
theorem J_f:Tryz.pinned.checked.prog.headLifts.contains "ownunsafe" =false:=by kernel_rfl
end Go.Proofs.YtblencgndjjleaaGreatDoor

