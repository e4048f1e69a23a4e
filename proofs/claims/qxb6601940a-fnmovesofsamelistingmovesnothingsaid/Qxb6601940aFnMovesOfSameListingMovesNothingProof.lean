/-
  THE PROOF OF 'Rows.FnMovesOfSameListingMovesNothingSaid'. Own work after the shells of this seat's other statements: the argument is a slice of structs that hold slices of structs.
-/
import Derived.Test.Qxb6601940aRows
import Derived.Test.Qxb6601940aClosed
import Derived.WalkKit
import Derived.ProofKit
import Derived.OpenShut
import Derived.ShutString
import Derived.ChangeOld
import Derived.Below
import Derived.Test.Qxb6601940aMvO
namespace Go.Proofs.Qxb6601940a.fnMovesOfSameListingMovesNothing
open Go.ChangeShapes Go.WideShapes Go.ChangeAt Go.RowKit
open Go.ChangeMaps (open_string shut_string)
set_option linter.unusedVariables false

theorem own : ownKnob Try.prog.godebug = none := by kernel_rfl
theorem laidOut : laidOutB Try.prog = true := by kernel_rfl

set_option maxRecDepth 100000 in
theorem lifted (os : Os) (started : os.Started) (H : Type) (enc : TypeId × Value → H) :
    ReturnsInHanded {} Try.checked os 4 .any (Rows.fnMovesOfSameListingMovesNothingSpec.pre6 enc Try.prog Try.f4 Rows.fnMovesOfSameListingMovesNothingRow.domain false) (Rows.fnMovesOfSameListingMovesNothingSpec.post enc Try.prog Try.f4 false true false false) := by
  refine returnsInHanded_of_change (C := Try.checked) own started (by kernel_rfl) Try.func4
    (ChangeSpec.witness6 (enc := enc) (C := Try.checked) false ⟨#[], #[.slice none 0 0], []⟩ 8 (by kernel_rfl) (by kernel_rfl) (by kernel_rfl) (by kernel_rfl)) ?_
  intro W base args ds gs before hval0 hW hcnd _
  have hval : ∀ (j : Nat) t v, Try.f4.params[j]? = some t → args[j]? = some v → Value.okWide Try.prog W .any base t v := hval0
  have hW' := hW
  obtain ⟨p, q, hA0, hV, rfl, hfz, hnd⟩ := hW
  have hA : DataW.TrodAll enc Try.prog W 0 (fun _ => true) true Try.f4.params.toList args.toList ds p := hA0
  rw [Try.params4] at hA hval
  obtain ⟨v0, vs0, d0, ds0, p0, q0, hargs, rfl, rfl, h0, r0⟩ := trodAll_cons hA
  obtain ⟨rfl, rfl, rfl⟩ := trodAll_nil r0
  obtain rfl : args = #[v0] := by cases args; simp_all
  obtain ⟨rfl, rfl⟩ := trodVars_none hV
  obtain ⟨a0, len0, cap0, rfl⟩ := okWide_slice Try.underlying22 (hval 0 22 v0 rfl rfl)
  have k0 := h0
  have lt0 : ∀ x ∈ p0, x.block < W.heap.size := by obtain ⟨m, hm⟩ := k0; exact DataW.trod_lt m _ _ _ hm
  obtain ⟨ps, hl, hr, hc, hn, hm, hw⟩ : ∃ ps : List Pt, ps.length = len0 ∧ RdP W a0 ps ∧ (a0 = none → cap0 = 0) ∧ len0 ≤ maxLen ∧ Lens ps ∧ WfP ps := by
    obtain ⟨fuel, hf⟩ := h0
    obtain ⟨a, c, ps, hcs, hr, hc, hn, hm, hw⟩ := open_parts hf
    simp [Value.cells] at hcs
    obtain ⟨rfl, rfl, rfl⟩ := hcs
    exact ⟨ps, rfl, hr, hc, hn, hm, hw⟩
  clear hA0 hval0
  refine (top4 a0 len0 cap0 ps W hl hr hc hm hn hw).mono fun e W' ⟨he, bel⟩ => ?_
  subst he
  exact ⟨_, rfl, _, _, _, [], _, [], hW', trodAll_mk1 (shut_bool Try.underlying4 _), (trodAll_cons_mk (Below.trod laidOut (by kernel_rfl) (of_decide_eq_true (by kernel_rfl)) k0 bel lt0) trodAll_mk0), rfl, bel.frame _, fun h => by cases h⟩

theorem closedLifts : (Rows.fnMovesOfSameListingMovesNothingRow.lifted == Try.pinned.checked.prog.liftsFinal) = true := by
  obtain ⟨r, hr⟩ := headCut
  rw [lifts_of hr]
  rfl
theorem closedMake : (Try.pinned.checked.prog.make == some Rows.fnMovesOfSameListingMovesNothingRow.make) = true := by
  obtain ⟨r, hr⟩ := headCut
  rw [make_of hr]
  rfl
set_option maxHeartbeats 0 in
theorem closedFacts : joinedFacts Try.pinned.checked.prog 4 Try.f4 Rows.fnMovesOfSameListingMovesNothingSpec Rows.fnMovesOfSameListingMovesNothingRow = true := by
  unfold joinedFacts
  repeat' (with_reducible refine band ?_ ?_)
  all_goals first
    | with_reducible exact closedEnter
    | with_reducible exact closedLifts
    | with_reducible exact closedMake
    | (as_aux_lemma => kernel_rfl)

theorem over : Rows.fnMovesOfSameListingMovesNothingRow.holds Try.pinned (OpenSpec.ofChange Rows.fnMovesOfSameListingMovesNothingSpec) :=
  OpenClaim.holds_of_wide 4 Try.f4 rfl rfl rfl rfl rfl rfl rfl ⟨rfl, rfl, rfl, rfl, rfl⟩ rfl rfl rfl rfl rfl (by kernel_rfl) Try.func4 closedFacts
    (of_decide_eq_true (by kernel_rfl)) (by unfold Func.isWrapper; first | (rw [if_pos (by decide +kernel)]; kernel_rfl) | (rw [if_neg (by decide +kernel)]; exact ⟨rfl, rfl⟩))
    (fun os started H enc _ => lifted os started H enc)

/-- THE STATEMENT -/
theorem proved : Rows.FnMovesOfSameListingMovesNothingSaid := over
#print axioms proved
end Go.Proofs.Qxb6601940a.fnMovesOfSameListingMovesNothing
