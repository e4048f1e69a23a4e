/-
  THE SHELL OF A PROOF OF 'Rows.FnClaimCountsPerClassSaid' ('example.com/latticework/latticework/zzlaws_placement_b1.FnClaimCountsPerClass'), WRITTEN BY PROGRAM (proof-skeleton.mjs, third state) off the guide's own print for that function. Not trusted: Lean checks it.
  The walk is filled in by contracts of my own.
-/
import Derived.Test.Qxb6601940aRows
import Derived.Test.Qxb6601940aClosed
import Derived.WalkKit
import Derived.ProofKit
import Derived.OpenShut
import Derived.ShutString
import Derived.ChangeOld
import Derived.Below
import Derived.Test.Qxb6601940aClE
import Derived.Test.Qxb6601940aOut5
namespace Go.Proofs.Qxb6601940a.fnClaimCountsPerClass
open Go.ChangeShapes Go.WideShapes Go.ChangeAt Go.RowKit
open Go.ChangeMaps (open_string shut_string)
set_option linter.unusedVariables false

theorem own : ownKnob Try.prog.godebug = none := by kernel_rfl
theorem laidOut : laidOutB Try.prog = true := by kernel_rfl

/-- WHAT THE WALK IS TOLD OF A SLICE OF INTEGERS THAT CAME IN: it is nil; or it leads to a row of 'cap' cells, the numbers 'zs' (the first 'len' are its elements, the rest its spare room), each fitting its kind. -/
def IsRow (k : IntKind) (w : World) (a : Option Addr) (len cap : Nat) (zs : List Int) : Prop :=
  (a = none ∧ len = 0 ∧ cap = 0 ∧ zs = []) ∨
  ∃ x, a = some x ∧ len ≤ cap ∧ cap ≤ maxLen ∧ zs.length = cap ∧ (∀ i, i < zs.length → w.cell? (x.add i) = some (.int k (zs.getD i 0))) ∧ ∀ n ∈ zs, (Lit.int k n).wf = true

/-- What a slice that came in is to my contracts. -/
theorem rd_of {k : IntKind} {w : World} {a : Option Addr} {len cap : Nat} {zs : List Int} (h : IsRow k w a len cap zs) : Rd k w a (zs.take len) ∧ (zs.take len).length = len ∧ (a = none → cap = 0) := by
  rcases h with ⟨rfl, rfl, rfl, rfl⟩ | ⟨x0, rfl, hl, hm, hz, hc, _⟩
  · exact ⟨⟨fun _ => rfl, fun x hx => (by cases hx)⟩, rfl, fun _ => rfl⟩
  · refine ⟨⟨fun h => (by cases h), fun x hx i hi => ?_⟩, by simp; omega, fun h => (by cases h)⟩
    cases hx
    have hi2 : i < len := by simp at hi; omega
    rw [hc i (by omega)]
    simp [List.getD, hi2]
/-- Each number of a row that came in fits its kind. -/
theorem wf_of {k : IntKind} {w : World} {a : Option Addr} {len cap : Nat} {zs : List Int} (h : IsRow k w a len cap zs) : ∀ n ∈ zs, (Lit.int k n).wf = true := by
  rcases h with ⟨rfl, rfl, rfl, rfl⟩ | ⟨x0, rfl, hl, hm, hz, hc, hw⟩
  · intro n hn; simp at hn
  · exact hw

/-! ### STEP 1: THE WALK: the Go text returns true, AND WRITES NOTHING THAT WAS THERE: 'Below w.heap.size w w'' (Derived/Below.lean: '.refl', '.alloc', '.drew', '.setCell' at a new block, '.trans'). Open each 'IsRow' by 'rcases' AHEAD of 'go_enter'; part every test ahead of the walk. -/
theorem walk (a0 : Option Addr) (len0 cap0 : Nat) (z0 : List Int) (a1 : Option Addr) (len1 cap1 : Nat) (z1 : List Int) (a2 : Option Addr) (len2 cap2 : Nat) (z2 : List Int) (a3 : Option Addr) (len3 cap3 : Nat) (z3 : List Int) (w : World) (w0 : IsRow .i32 w a0 len0 cap0 z0) (w1 : IsRow .i64 w a1 len1 cap1 z1) (w2 : IsRow .i64 w a2 len2 cap2 z2) (w3 : IsRow .i64 w a3 len3 cap3 z3) :
    Calls Try.prog 5 #[.slice a0 len0 cap0, .slice a1 len1 cap1, .slice a2 len2 cap2, .slice a3 len3 cap3] w fun e w' => e = .returned (.bool true) ∧ Below w.heap.size w w' := by
  obtain ⟨r0, l0, k0⟩ := rd_of w0
  obtain ⟨r1, l1, k1⟩ := rd_of w1
  obtain ⟨r2, l2, k2⟩ := rd_of w2
  obtain ⟨r3, l3, k3⟩ := rd_of w3
  have hof : ∀ j, -2147483648 ≤ (z0.take len0).getD j 0 ∧ (z0.take len0).getD j 0 ≤ 2147483647 := fun j => by
    rw [List.getD_eq_getElem?_getD]
    exact range_i32 (fun n hn => wf_of w0 n (List.mem_of_mem_take hn)) j
  have hsz : ∀ z ∈ z1.take len1, -9223372036854775808 ≤ z ∧ z ≤ 9223372036854775807 := fun z hz => bounds_i64 (wf_of w1 z (List.mem_of_mem_take hz))
  by_cases h : len0 ≤ 65536 ∧ len1 ≤ 4096 ∧ len2 ≤ 4096 ∧ len3 ≤ 4096 ∧ 4 * len0 + 8 * (len1 + len2 + len3) ≤ 1048576 ∧ domB (z0.take len0) a0 a2 a3 len1 (z2.take len2) (z3.take len3) = true
  · obtain ⟨h0, h1, h2, h3, hs, hd⟩ := h
    cases a2 with
    | none => exact top5A len0 cap0 len1 cap1 len2 cap2 len3 cap3 _ _ _ _ a0 a1 a3 w l0 l1 l2 l3 h0 h1 h2 h3 hs r0 k0 r1 k1 r2 k2 r3 k3 hof hsz hd
    | some x2 =>
      cases a0 with
      | none => exact top5B len0 cap0 len1 cap1 len2 cap2 len3 cap3 _ _ _ _ a1 x2 a3 w l0 l1 l2 l3 h0 h1 h2 h3 hs r0 k0 r1 k1 r2 k2 r3 k3 hof hsz hd
      | some x0 =>
        cases a3 with
        | none => exact top5D len0 cap0 len1 cap1 len2 cap2 len3 cap3 _ _ _ _ x0 a1 x2 w l0 l1 l2 l3 h0 h1 h2 h3 hs r0 k0 r1 k1 r2 k2 r3 k3 hof hsz hd
        | some x3 => exact top5C len0 cap0 len1 cap1 len2 cap2 len3 cap3 _ _ _ _ x0 a1 x2 x3 w l0 l1 l2 l3 h0 h1 h2 h3 hs r0 k0 r1 k1 r2 k2 r3 k3 hof hsz hd
  · exact top5_out a0 a1 a2 a3 len0 cap0 len1 cap1 len2 cap2 len3 cap3 _ _ _ w l0 l2 l3 r0 r2 r3 hof h

/-! ### THE ROW's STEP: WRITTEN OUT: LEAVE IT -/
set_option maxRecDepth 100000 in
theorem lifted (os : Os) (started : os.Started) (H : Type) (enc : TypeId × Value → H) :
    ReturnsInHanded {} Try.checked os 5 .any (Rows.fnClaimCountsPerClassSpec.pre6 enc Try.prog Try.f5 Rows.fnClaimCountsPerClassRow.domain false) (Rows.fnClaimCountsPerClassSpec.post enc Try.prog Try.f5 false true false false) := by
  refine returnsInHanded_of_change (C := Try.checked) own started (by kernel_rfl) Try.func5
    (ChangeSpec.witness6 (enc := enc) (C := Try.checked) false ⟨#[], #[.slice none 0 0, .slice none 0 0, .slice none 0 0, .slice none 0 0], []⟩ 8 (by kernel_rfl) (by kernel_rfl) (by kernel_rfl) (by kernel_rfl)) ?_
  intro W base args ds gs before hval0 hW hcnd _
  have hval : ∀ (j : Nat) t v, Try.f5.params[j]? = some t → args[j]? = some v → Value.okWide Try.prog W .any base t v := hval0
  have hW' := hW
  obtain ⟨p, q, hA0, hV, rfl, hfz, hnd⟩ := hW
  have hA : DataW.TrodAll enc Try.prog W 0 (fun _ => true) true Try.f5.params.toList args.toList ds p := hA0
  rw [Try.params5] at hA hval
  obtain ⟨v0, vs0, d0, ds0, p0, q0, hargs, rfl, rfl, h0, r0⟩ := trodAll_cons hA
  obtain ⟨v1, vs1, d1, ds1, p1, q1, rfl, rfl, rfl, h1, r1⟩ := trodAll_cons r0
  obtain ⟨v2, vs2, d2, ds2, p2, q2, rfl, rfl, rfl, h2, r2⟩ := trodAll_cons r1
  obtain ⟨v3, vs3, d3, ds3, p3, q3, rfl, rfl, rfl, h3, r3⟩ := trodAll_cons r2
  obtain ⟨rfl, rfl, rfl⟩ := trodAll_nil r3
  obtain rfl : args = #[v0, v1, v2, v3] := by cases args; simp_all
  obtain ⟨rfl, rfl⟩ := trodVars_none hV
  obtain ⟨a0, len0, cap0, rfl⟩ := okWide_slice Try.underlying34 (hval 0 34 v0 rfl rfl)
  have k0 := h0
  have lt0 : ∀ x ∈ p0, x.block < W.heap.size := by obtain ⟨m, hm⟩ := k0; exact DataW.trod_lt m _ _ _ hm
  obtain ⟨z0, w0⟩ : ∃ zs, IsRow .i32 W a0 len0 cap0 zs := by
    obtain ⟨fuel, hf⟩ := h0
    rcases open_ints Try.underlying34 Try.underlying21 (by kernel_rfl) hf with ⟨hcs, _⟩ | ⟨x, l, c, zs, hcs, _, hl, hm, hz, _, hcell, hwz⟩
    · simp [Value.cells] at hcs
      obtain ⟨rfl, rfl, rfl⟩ := hcs
      exact ⟨[], .inl ⟨rfl, rfl, rfl, rfl⟩⟩
    · simp [Value.cells] at hcs
      obtain ⟨rfl, rfl, rfl⟩ := hcs
      exact ⟨zs, .inr ⟨_, rfl, hl, hm, by simpa using hz, hcell, hwz⟩⟩
  obtain ⟨a1, len1, cap1, rfl⟩ := okWide_slice Try.underlying35 (hval 1 35 v1 rfl rfl)
  have k1 := h1
  have lt1 : ∀ x ∈ p1, x.block < W.heap.size := by obtain ⟨m, hm⟩ := k1; exact DataW.trod_lt m _ _ _ hm
  obtain ⟨z1, w1⟩ : ∃ zs, IsRow .i64 W a1 len1 cap1 zs := by
    obtain ⟨fuel, hf⟩ := h1
    rcases open_ints Try.underlying35 Try.underlying3 (by kernel_rfl) hf with ⟨hcs, _⟩ | ⟨x, l, c, zs, hcs, _, hl, hm, hz, _, hcell, hwz⟩
    · simp [Value.cells] at hcs
      obtain ⟨rfl, rfl, rfl⟩ := hcs
      exact ⟨[], .inl ⟨rfl, rfl, rfl, rfl⟩⟩
    · simp [Value.cells] at hcs
      obtain ⟨rfl, rfl, rfl⟩ := hcs
      exact ⟨zs, .inr ⟨_, rfl, hl, hm, by simpa using hz, hcell, hwz⟩⟩
  obtain ⟨a2, len2, cap2, rfl⟩ := okWide_slice Try.underlying35 (hval 2 35 v2 rfl rfl)
  have k2 := h2
  have lt2 : ∀ x ∈ p2, x.block < W.heap.size := by obtain ⟨m, hm⟩ := k2; exact DataW.trod_lt m _ _ _ hm
  obtain ⟨z2, w2⟩ : ∃ zs, IsRow .i64 W a2 len2 cap2 zs := by
    obtain ⟨fuel, hf⟩ := h2
    rcases open_ints Try.underlying35 Try.underlying3 (by kernel_rfl) hf with ⟨hcs, _⟩ | ⟨x, l, c, zs, hcs, _, hl, hm, hz, _, hcell, hwz⟩
    · simp [Value.cells] at hcs
      obtain ⟨rfl, rfl, rfl⟩ := hcs
      exact ⟨[], .inl ⟨rfl, rfl, rfl, rfl⟩⟩
    · simp [Value.cells] at hcs
      obtain ⟨rfl, rfl, rfl⟩ := hcs
      exact ⟨zs, .inr ⟨_, rfl, hl, hm, by simpa using hz, hcell, hwz⟩⟩
  obtain ⟨a3, len3, cap3, rfl⟩ := okWide_slice Try.underlying35 (hval 3 35 v3 rfl rfl)
  have k3 := h3
  have lt3 : ∀ x ∈ p3, x.block < W.heap.size := by obtain ⟨m, hm⟩ := k3; exact DataW.trod_lt m _ _ _ hm
  obtain ⟨z3, w3⟩ : ∃ zs, IsRow .i64 W a3 len3 cap3 zs := by
    obtain ⟨fuel, hf⟩ := h3
    rcases open_ints Try.underlying35 Try.underlying3 (by kernel_rfl) hf with ⟨hcs, _⟩ | ⟨x, l, c, zs, hcs, _, hl, hm, hz, _, hcell, hwz⟩
    · simp [Value.cells] at hcs
      obtain ⟨rfl, rfl, rfl⟩ := hcs
      exact ⟨[], .inl ⟨rfl, rfl, rfl, rfl⟩⟩
    · simp [Value.cells] at hcs
      obtain ⟨rfl, rfl, rfl⟩ := hcs
      exact ⟨zs, .inr ⟨_, rfl, hl, hm, by simpa using hz, hcell, hwz⟩⟩
  clear hA0 hval0
  refine (walk a0 len0 cap0 z0 a1 len1 cap1 z1 a2 len2 cap2 z2 a3 len3 cap3 z3 W w0 w1 w2 w3).mono fun e W' ⟨he, bel⟩ => ?_
  subst he
  exact ⟨_, rfl, _, _, _, [], _, [], hW', trodAll_mk1 (shut_bool Try.underlying4 _), (trodAll_cons_mk (Below.trod laidOut (by kernel_rfl) (of_decide_eq_true (by kernel_rfl)) k0 bel lt0) (trodAll_cons_mk (Below.trod laidOut (by kernel_rfl) (of_decide_eq_true (by kernel_rfl)) k1 bel lt1) (trodAll_cons_mk (Below.trod laidOut (by kernel_rfl) (of_decide_eq_true (by kernel_rfl)) k2 bel lt2) (trodAll_cons_mk (Below.trod laidOut (by kernel_rfl) (of_decide_eq_true (by kernel_rfl)) k3 bel lt3) trodAll_mk0)))), rfl, bel.frame _, fun h => by cases h⟩

theorem closedLifts : (Rows.fnClaimCountsPerClassRow.lifted == Try.pinned.checked.prog.liftsFinal) = true := by
  obtain ⟨r, hr⟩ := headCut
  rw [lifts_of hr]
  rfl
theorem closedMake : (Try.pinned.checked.prog.make == some Rows.fnClaimCountsPerClassRow.make) = true := by
  obtain ⟨r, hr⟩ := headCut
  rw [make_of hr]
  rfl
set_option maxHeartbeats 0 in
theorem closedFacts : joinedFacts Try.pinned.checked.prog 5 Try.f5 Rows.fnClaimCountsPerClassSpec Rows.fnClaimCountsPerClassRow = true := by
  unfold joinedFacts
  repeat' (with_reducible refine band ?_ ?_)
  all_goals first
    | with_reducible exact closedEnter
    | with_reducible exact closedLifts
    | with_reducible exact closedMake
    | (as_aux_lemma => kernel_rfl)

theorem over : Rows.fnClaimCountsPerClassRow.holds Try.pinned (OpenSpec.ofChange Rows.fnClaimCountsPerClassSpec) :=
  OpenClaim.holds_of_wide 5 Try.f5 rfl rfl rfl rfl rfl rfl rfl ⟨rfl, rfl, rfl, rfl, rfl⟩ rfl rfl rfl rfl rfl (by kernel_rfl) Try.func5 closedFacts
    (of_decide_eq_true (by kernel_rfl)) (by unfold Func.isWrapper; first | (rw [if_pos (by decide +kernel)]; kernel_rfl) | (rw [if_neg (by decide +kernel)]; exact ⟨rfl, rfl⟩))
    (fun os started H enc _ => lifted os started H enc)

/-- ████ THE STATEMENT ████ -/
theorem proved : Rows.FnClaimCountsPerClassSaid := over
#print axioms proved
end Go.Proofs.Qxb6601940a.fnClaimCountsPerClass
