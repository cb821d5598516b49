/- Lemmas of this claim; the last text says what is proved. -/
import Derived.Test.YtblencgndjjleaaGreatDoorRows
import GoSem.ClaimGoes
set_option linter.all false
namespace Go.Proofs.YtblencgndjjleaaGreatDoor
open Go
theorem i_S{c:OpenClaim}{P:Program}(hs:c.start=.entering)(h:P.funcs.any Func.goes=false):c.goesBy P=false:=by
 have h0:∀(g:Nat) fn,P.funcs[g]?=some fn->Func.goes fn=false:=fun g fn e=>by
  rw[Array.any_eq_false] at h
  obtain⟨hg,rfl⟩:=Array.getElem?_eq_some_iff.1 e
  simpa using h g hg
 have h1:∀f,P.goes f=false:=fun f=>by
  unfold Program.goes
  rw[h,Bool.and_false,Bool.or_false,List.any_eq_false]
  intro g _
  cases e:P.funcs[g]? with
  |none=>simp
  |some fn=>simp[h0 g fn e]
 unfold OpenClaim.goesBy Program.goesAt Program.goesFrom
 rw[hs]
 cases P.funcNamed c.func with
 |none=>rfl
 |some f=>simp[h1]
theorem G_v:Tryz.pinned.checked.prog.funcs.any Func.goes=false:=by kernel_rfl
theorem x_j:false=Rows.fnTablePresentationRow.goesBy Tryz.pinned.checked.prog:=(i_S rfl G_v).symm
end Go.Proofs.YtblencgndjjleaaGreatDoor

