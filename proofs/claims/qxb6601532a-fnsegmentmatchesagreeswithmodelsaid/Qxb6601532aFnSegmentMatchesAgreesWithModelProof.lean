/-
  THE PROOF OF 'Rows.FnSegmentMatchesAgreesWithModelSaid': the guide's own way (howto/template/XProofs.lean) at this function's number and types; the walk by contracts of my own.
-/
import Derived.Test.Qxb6601532aRows
import Derived.WalkKit
import Derived.ProofKit
import Derived.OpenShut
import Derived.ShutString
import Derived.ChangeOld
import Derived.Below
import Derived.Deep.Slices
import Derived.Test.Qxb6601532aH
import Derived.Test.Qxb6601532aClosed
namespace Go.Proofs.Qxb6601532a.fnSegmentMatchesAgreesWithModel
open Go.ChangeShapes Go.WideShapes Go.ChangeAt Go.RowKit
open Go.ChangeMaps (open_string shut_string)
set_option linter.unusedVariables false

theorem own : ownKnob Try.prog.godebug = none := by kernel_rfl
theorem laidOut : laidOutB Try.prog = true := by kernel_rfl
theorem cells4 : Try.prog.cellsOf 4 = 1 := by kernel_rfl
theorem cells31 : Try.prog.cellsOf 31 = 256 := by kernel_rfl

/-- What a slice of bools that came in is to my contracts. -/
theorem rdB_of {H : Type} {enc : TypeId × Value → H} {W : World} {a : Option Addr} {n c : Nat} {d : DataW H} {p : List MemPlace} (h : DataW.Trod enc Try.prog W 0 (fun _ => true) true 22 (.slice a n c) d p) :
    ∃ bs : List Bool, bs.length = n ∧ RdB W a bs ∧ (a = none → c = 0) := by
  obtain ⟨fuel, hf⟩ := h
  rcases Deep.open_slice1 Try.underlying22 cells4 hf with ⟨hcs, _⟩ | ⟨x, len, cap, m, q, V, D, Pl, hcs, _, hl, hm, hmm, _, hat⟩
  · simp [Value.cells] at hcs
    obtain ⟨rfl, rfl, rfl⟩ := hcs
    exact ⟨[], rfl, ⟨fun _ => rfl, fun x hx => (by cases hx)⟩, fun _ => rfl⟩
  · simp [Value.cells] at hcs
    obtain ⟨rfl, rfl, rfl⟩ := hcs
    simp only [if_true] at hmm
    subst hmm
    refine ⟨(List.range n).map fun i => match V i with | .bool b => b | _ => false, by simp, ⟨fun h => (by cases h), fun y hy i hi => ?_⟩, fun h => (by cases h)⟩
    cases hy
    have hi2 : i < n := by simpa using hi
    obtain ⟨h1, h2⟩ := hat i (by omega)
    obtain ⟨b, hb, _⟩ := DataW.trod_bool Try.underlying4 h2
    have hv : V i = .bool b := by simpa using hb
    rw [h1, hv]
    simp [List.getD, hi2, hv]

/-- What a slice of sets that came in is to my contracts. -/
theorem rdS_of {H : Type} {enc : TypeId × Value → H} {W : World} {a : Option Addr} {n c : Nat} {d : DataW H} {p : List MemPlace} (h : DataW.Trod enc Try.prog W 0 (fun _ => true) true 23 (.slice a n c) d p) :
    ∃ S : Nat → Bool, RdS W a n S ∧ (a = none → c = 0) := by
  obtain ⟨fuel, hf⟩ := h
  rcases Deep.open_slice Try.underlying23 hf with ⟨hcs, _⟩ | ⟨x, len, cap, m, q, D, Pl, hcs, _, hl, hm, hmm, _, hat⟩
  · simp [Value.cells] at hcs
    obtain ⟨rfl, rfl, rfl⟩ := hcs
    exact ⟨fun _ => false, ⟨fun _ => rfl, fun x hx => (by cases hx)⟩, fun _ => rfl⟩
  · simp [Value.cells] at hcs
    obtain ⟨rfl, rfl, rfl⟩ := hcs
    simp only [if_true] at hmm
    subst hmm
    refine ⟨fun k => match W.cell? (x.add k) with | some (.bool b) => b | _ => false, ⟨fun h => (by cases h), fun y hy k hk => ?_⟩, fun h => (by cases h)⟩
    cases hy
    obtain ⟨cs, h1, h2⟩ := hat (k / 256) (by omega)
    rw [cells31] at h1
    obtain ⟨_, hlen, hcell⟩ := World.cells?_some h1
    have hj : k % 256 < 256 := Nat.mod_lt _ (by decide)
    have hc1 := hcell (k % 256) hj
    rw [Deep.add_add, show k / 256 * 256 + k % 256 = k from by omega] at hc1
    obtain ⟨xs, m2, _, _, _, hxl, hel⟩ := DataW.trod_array Try.underlying31 h2
    have h3 := hel (k % 256) hj
    rw [cells4, Nat.mul_one, List.getElem?_eq_getElem (by omega)] at h3
    obtain ⟨b, hb, _⟩ := DataW.trod_bool Try.underlying4 h3
    have h4 : cs[k % 256]? = some (.bool b) := by
      have h5 := congrArg (fun l => l[0]?) hb
      simpa using h5
    rw [h4] at hc1
    simp [hc1]

/-! ### THE WALK -/
theorem walk (a0 : Option Addr) (n0 c0 : Nat) (bs : List Bool) (a1 : Option Addr) (n1 c1 : Nat) (S : Nat → Bool) (s : ByteArray) (w : World) (l0 : bs.length = n0) (r0 : RdB w a0 bs) (k0 : a0 = none → c0 = 0) (r1 : RdS w a1 n1 S) (k1 : a1 = none → c1 = 0) :
    Calls Try.prog 3 #[.slice a0 n0 c0, .slice a1 n1 c1, .string s] w fun e w' => e = .returned (.bool true) ∧ Below w.heap.size w w' := by
  by_cases h : sum256 (n0 + n1) n1 + s.size ≤ 1048576
  · by_cases hd : n0 ≤ 2048 ∧ n1 ≤ 2048 ∧ s.size ≤ 262144
    · obtain ⟨q1, q2, q3⟩ := hd
      exact top_in a0 a1 n0 c0 n1 c1 bs S s w h q1 q2 q3 l0 r0 r1 k0 k1
    · exact top_len a0 a1 n0 c0 n1 c1 s w h (by omega)
  · exact top_bytes a0 a1 n0 c0 n1 c1 s w (by omega)

/-! ### THE ROW's STEP -/
set_option maxRecDepth 100000 in
theorem lifted (os : Os) (started : os.Started) (H : Type) (enc : TypeId × Value → H) :
    ReturnsInHanded {} Try.checked os 3 .any (Rows.fnSegmentMatchesAgreesWithModelSpec.pre6 enc Try.prog Try.f3 Rows.fnSegmentMatchesAgreesWithModelRow.domain false) (Rows.fnSegmentMatchesAgreesWithModelSpec.post enc Try.prog Try.f3 false true false false) := by
  refine returnsInHanded_of_change (C := Try.checked) own started (by kernel_rfl) Try.func3
    (ChangeSpec.witness6 (enc := enc) (C := Try.checked) false ⟨#[], #[.slice none 0 0, .slice none 0 0, .string ByteArray.empty], []⟩ 8 (by kernel_rfl) (by kernel_rfl) (by kernel_rfl) (by kernel_rfl)) ?_
  intro W base args ds gs before hval0 hW hcnd _
  have hval : ∀ (j : Nat) t v, Try.f3.params[j]? = some t → args[j]? = some v → Value.okWide Try.prog W .any base t v := hval0
  have hW' := hW
  obtain ⟨p, q, hA0, hV, rfl, hfz, hnd⟩ := hW
  have hA : DataW.TrodAll enc Try.prog W 0 (fun _ => true) true Try.f3.params.toList args.toList ds p := hA0
  rw [Try.params3] at hA hval
  obtain ⟨v0, vs0, d0, ds0, p0, q0, hargs, rfl, rfl, h0, r0⟩ := trodAll_cons hA
  obtain ⟨v1, vs1, d1, ds1, p1, q1, rfl, rfl, rfl, h1, r1⟩ := trodAll_cons r0
  obtain ⟨v2, vs2, d2, ds2, p2, q2, rfl, rfl, rfl, h2, r2⟩ := trodAll_cons r1
  obtain ⟨rfl, rfl, rfl⟩ := trodAll_nil r2
  obtain rfl : args = #[v0, v1, v2] := by cases args; simp_all
  obtain ⟨rfl, rfl⟩ := trodVars_none hV
  obtain ⟨a0, n0, c0, rfl⟩ := okWide_slice Try.underlying22 (hval 0 22 v0 rfl rfl)
  have k0 := h0
  have lt0 : ∀ x ∈ p0, x.block < W.heap.size := by obtain ⟨m, hm⟩ := k0; exact DataW.trod_lt m _ _ _ hm
  obtain ⟨bs, l0, rd0, nc0⟩ := rdB_of h0
  obtain ⟨a1, n1, c1, rfl⟩ := okWide_slice Try.underlying23 (hval 1 23 v1 rfl rfl)
  have k1 := h1
  have lt1 : ∀ x ∈ p1, x.block < W.heap.size := by obtain ⟨m, hm⟩ := k1; exact DataW.trod_lt m _ _ _ hm
  obtain ⟨S, rd1, nc1⟩ := rdS_of h1
  obtain ⟨s, rfl, rfl, rfl, hs⟩ := open_string Try.underlying9 (hval 2 9 v2 rfl rfl) h2
  clear hA0 hval0
  refine (walk a0 n0 c0 bs a1 n1 c1 S s W l0 rd0 nc0 rd1 nc1).mono fun e W' ⟨he, bel⟩ => ?_
  subst he
  exact ⟨_, rfl, _, _, _, [], _, [], hW', trodAll_mk1 (shut_bool Try.underlying4 _), (trodAll_cons_mk (Below.trod laidOut (by kernel_rfl) (of_decide_eq_true (by kernel_rfl)) k0 bel lt0) (trodAll_cons_mk (Below.trod laidOut (by kernel_rfl) (of_decide_eq_true (by kernel_rfl)) k1 bel lt1) (trodAll_cons_mk (shut_string Try.underlying9 hs) trodAll_mk0))), rfl, bel.frame _, fun h => by cases h⟩

theorem over : Rows.fnSegmentMatchesAgreesWithModelRow.holds Try.pinned (OpenSpec.ofChange Rows.fnSegmentMatchesAgreesWithModelSpec) :=
  OpenClaim.holds_of_wide 3 Try.f3 rfl rfl rfl rfl rfl rfl rfl ⟨rfl, rfl, rfl, rfl, rfl⟩ rfl rfl rfl rfl rfl (by kernel_rfl) Try.func3 closedFacts
    (of_decide_eq_true (by kernel_rfl)) (by unfold Func.isWrapper; first | (rw [if_pos (by decide +kernel)]; kernel_rfl) | (rw [if_neg (by decide +kernel)]; exact ⟨rfl, rfl⟩))
    (fun os started H enc _ => lifted os started H enc)

/-- ████ THE STATEMENT ████ -/
theorem proved : Rows.FnSegmentMatchesAgreesWithModelSaid := over
#print axioms proved
end Go.Proofs.Qxb6601532a.fnSegmentMatchesAgreesWithModel
