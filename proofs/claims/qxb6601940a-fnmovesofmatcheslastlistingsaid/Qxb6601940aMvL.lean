import Derived.Test.Qxb6601940aMvK
namespace Go.Proofs.Qxb6601940a
open Go.RowKit
set_option linter.unusedVariables false

set_option maxHeartbeats 400000 in
theorem zzmoves_any (a0 : Option Addr) (n0 c0 : Nat) (ps0 : List Pt) (a1 : Option Addr) (n1 c1 : Nat) (ps1 : List Pt) (w : World)
    (hl0 : ps0.length = n0) (hl1 : ps1.length = n1) (hr0 : RdP w a0 ps0) (hr1 : RdP w a1 ps1) (hf0 : Few ps0) (hf1 : Few ps1) (hw0 : WfP ps0) (hw1 : WfP ps1) :
    Calls Try.prog 15 #[.slice a0 n0 c0, .slice a1 n1 c1] w (MvOut (moves (ps0.map core) (ps1.map core)) w) := by
  have H := moves_any a0 n0 c0 ps0 a1 n1 c1 ps1 w hl0 hl1 hr0 hr1 hf0 hf1 hw0 hw1
  have HH : Hid (Calls Try.prog 36 #[.slice a0 n0 c0, .slice a1 n1 c1] w (MvOut (moves (ps0.map core) (ps1.map core)) w)) := H
  clear H hl0 hl1 hr0 hr1 hf0 hf1 hw0 hw1
  go_enter Try.func15, Try.ntmps15
  go_wp2_with fail
  refine HH.out.mono ?_
  rintro e w1 ⟨g, cap, rfl, ho, hk⟩
  go_wp2
  go_ret
  exact ⟨g, cap, rfl, ho, hk⟩

set_option maxHeartbeats 1000000 in
set_option maxRecDepth 100000 in
theorem top4 (a : Option Addr) (n c : Nat) (ps : List Pt) (w : World) (hl : ps.length = n) (hr : RdP w a ps) (hc : a = none → c = 0) (hm : Lens ps) (hn : n ≤ maxLen) (hw : WfP ps) :
    Calls Try.prog 4 #[.slice a n c] w fun e w' => e = .returned (.bool true) ∧ Below w.heap.size w w' := by
  have q28 : ∀ (w : World) (a : Option Addr) (n c n' c' : Nat), (binOp .neq 28 (.slice a n c) (.slice none n' c')).run Try.prog w = .ok (.bool (!a.isNone)) w := fun w a n c n' c' => run_neq_slice_nil_any w _ _ a n c n' c' Try.underlying28
  have HL : Hid (ps.length = n) := hl
  have HC : Hid (a = none → c = 0) := hc
  have HN : Hid (n ≤ maxLen) := hn
  clear hl hc hn
  go_enter Try.func4, Try.ntmps4
  go_wp2_with fail
  refine (zz19_any a n c ps _ HL.out hr hm HN.out).mono ?_
  rintro e w1 ⟨b, rfl, rfl, _⟩
  cases b with
  | false =>
    go_wp2
    go_ret
    exact ⟨rfl, Below.refl _ _⟩
  | true =>
    go_wp2_with fail
    refine (bytes12_any a n c ps _ HL.out hr hm HN.out).mono ?_
    rintro e w1 ⟨m, rfl, rfl, hm2⟩
    by_cases hmb : m ≤ 1048576
    · go_wp2_with fail
      refine (fit_any a n c ps _ HL.out hr hm HN.out).mono ?_
      rintro e w1 ⟨b, rfl, rfl, hfew⟩
      cases b with
      | false =>
        go_wp2
        go_ret
        exact ⟨rfl, Below.refl _ _⟩
      | true =>
        have hf := hfew rfl
        clear hfew
        go_wp2_with fail
        refine (dist_any a n c ps _ HL.out hr hf).mono ?_
        rintro e w2 ⟨b, rfl, hk2, hd⟩
        cases b with
        | false =>
          go_wp2
          go_ret
          exact ⟨rfl, hk2.below (Nat.le_refl _) (by simp)⟩
        | true =>
          have HD : Hid (Dist ps) := hd rfl
          clear hd
          go_wp2_with fail
          refine (cp_any a n c ps _ HL.out (hr.kept hk2) HC.out hf).mono ?_
          rintro e w3 ⟨a3, c3, qs, rfl, hl3, hr3, he3, hc3, _, hk3⟩
          have HL3 : Hid (qs.length = n ∧ qs.map core = ps.map core ∧ (a3 = none → c3 = 0)) := ⟨hl3, he3, hc3⟩
          clear hl3 he3 hc3
          go_wp2_with fail
          refine (to_any a3 n c3 qs _ HL3.out.1 hr3 HL3.out.2.2 (hf.of_core HL3.out.2.1)).mono ?_
          rintro e w4 ⟨a4, c4, rs, rfl, hl4, hr4, he4, hc4, _, hk4⟩
          have HL4 : Hid (rs.length = n ∧ rs.map core = ps.map core) := ⟨hl4, he4.trans HL3.out.2.1⟩
          clear hl4 he4 hc4
          go_wp2_with fail
          refine (zzmoves_any a4 n c4 rs a4 n c4 rs _ HL4.out.1 HL4.out.1 hr4 hr4 (hf.of_core HL4.out.2) (hf.of_core HL4.out.2) (hw.of_core HL4.out.2) (hw.of_core HL4.out.2)).mono ?_
          rintro e w5 ⟨g, cap, rfl, _, hk5⟩
          have hz : (moves (rs.map core) (rs.map core)).length = 0 := by rw [HL4.out.2, moves_same HD.out]; rfl
          rw [hz]
          clear hz
          go_wp2
          go_ret
          exact ⟨rfl, (((hk2.next hk3).next hk4).next hk5).below (Nat.le_refl _) (by simp)⟩
    · go_wp2
      go_ret
      exact ⟨rfl, Below.refl _ _⟩

end Go.Proofs.Qxb6601940a
