/- Lemmas of this claim; the last text says what is proved. -/
import Derived.Test.YtjkgmpkgfhhaiaaGreatRows
import Derived.ProofKit
set_option linter.all false
namespace Go.Proofs.YtjkgmpkgfhhaiaaGreat
set_option maxHeartbeats 4000000 in
theorem skFacts:joinedFacts Tryz.checked.prog 3 Go.Proofs.Tryz.f3 Rows.fnTableSkipSpec Rows.fnTableSkipRow=true:=by
 unfold joinedFacts
 simp only[Bool.and_eq_true]
 refine⟨⟨⟨⟨⟨⟨⟨⟨⟨⟨⟨⟨⟨⟨⟨⟨⟨⟨⟨⟨⟨⟨⟨⟨⟨⟨⟨⟨⟨⟨⟨?_,?_⟩,?_⟩,?_⟩,?_⟩,?_⟩,?_⟩,?_⟩,?_⟩,?_⟩,?_⟩,?_⟩,?_⟩,?_⟩,?_⟩,?_⟩,?_⟩,?_⟩,?_⟩,?_⟩,?_⟩,?_⟩,?_⟩,?_⟩,?_⟩,?_⟩,?_⟩,?_⟩,?_⟩,?_⟩,?_⟩,?_⟩<;>as_aux_lemma=>kernel_rfl
end Go.Proofs.YtjkgmpkgfhhaiaaGreat
