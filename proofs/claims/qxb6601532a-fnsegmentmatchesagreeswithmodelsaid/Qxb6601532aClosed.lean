/-
  OWN WORK: the row's closed facts, each as a lemma of its own, so that the kernel gives its memory back behind each.
-/
import Derived.Test.Qxb6601532aRows
import Derived.WalkKit
import Derived.ProofKit
import Derived.OpenShut
namespace Go.Proofs.Qxb6601532a
theorem band {a b : Bool} (h1 : a = true) (h2 : b = true) : (a && b) = true := by rw [h1, h2]; rfl
set_option maxHeartbeats 0 in
theorem closedFacts : joinedFacts Try.pinned.checked.prog 3 Try.f3 Rows.fnSegmentMatchesAgreesWithModelSpec Rows.fnSegmentMatchesAgreesWithModelRow = true := by
  unfold joinedFacts
  repeat' (with_reducible refine band ?_ ?_)
  all_goals (as_aux_lemma => kernel_rfl)
end Go.Proofs.Qxb6601532a
