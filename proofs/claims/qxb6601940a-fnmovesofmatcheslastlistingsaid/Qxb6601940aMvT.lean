import Derived.Test.Qxb6601940aMvL
import Derived.Test.Qxb6601940aMvQ
import Derived.Test.Qxb6601940aMvR
import Derived.Test.Qxb6601940aMvS
namespace Go.Proofs.Qxb6601940a
open Go.RowKit
set_option linter.unusedVariables false

set_option maxHeartbeats 2000000 in
set_option maxRecDepth 100000 in
theorem top3 (a : Option Addr) (n c : Nat) (ps : List Pt) (a' : Option Addr) (n' c' : Nat) (ps' : List Pt) (w : World)
    (hl : ps.length = n) (hr : RdP w a ps) (hc : a = none → c = 0) (hm : Lens ps) (hn : n ≤ maxLen) (hw : WfP ps)
    (hl' : ps'.length = n') (hr' : RdP w a' ps') (hc' : a' = none → c' = 0) (hm' : Lens ps') (hn' : n' ≤ maxLen) (hw' : WfP ps') :
    Calls Try.prog 3 #[.slice a n c, .slice a' n' c'] w fun e w' => e = .returned (.bool true) ∧ Below w.heap.size w w' := by
  have q28 : ∀ (w : World) (a : Option Addr) (n c n' c' : Nat), (binOp .neq 28 (.slice a n c) (.slice none n' c')).run Try.prog w = .ok (.bool (!a.isNone)) w := fun w a n c n' c' => run_neq_slice_nil_any w _ _ a n c n' c' Try.underlying28
  have HL : Hid (ps.length = n) := hl
  have HC : Hid (a = none → c = 0) := hc
  have HN : Hid (n ≤ maxLen) := hn
  have HL' : Hid (ps'.length = n') := hl'
  have HC' : Hid (a' = none → c' = 0) := hc'
  have HN' : Hid (n' ≤ maxLen) := hn'
  clear hl hc hn hl' hc' hn'
  go_enter Try.func3, Try.ntmps3
  go_wp2_with fail
  refine (zz10_any a n c ps a' n' c' ps' _ HL.out hr hm HN.out HL'.out hr' hm' HN'.out).mono ?_
  rintro e w1 ⟨b, rfl, rfl, _⟩
  cases b with
  | false =>
    go_wp2
    go_ret
    exact ⟨rfl, Below.refl _ _⟩
  | true =>
    go_wp2_with fail
    refine (bytes12_any a n c ps _ HL.out hr hm HN.out).mono ?_
    rintro e w1 ⟨m, rfl, rfl, hm2⟩
    go_wp2_with fail
    refine (bytes12_any a' n' c' ps' _ HL'.out hr' hm' HN'.out).mono ?_
    rintro e w1 ⟨m', rfl, rfl, hm3⟩
    go_wp2_with fail
    refine (cap_any m m' _ hm2).mono ?_
    rintro e w1 ⟨m4, rfl, rfl, hm4⟩
    by_cases hmb : m4 ≤ 1048576
    · go_wp2_with fail
      refine (fit_any a n c ps _ HL.out hr hm HN.out).mono ?_
      rintro e w1 ⟨b, rfl, rfl, hfew⟩
      cases b with
      | false =>
        go_wp2
        go_ret
        exact ⟨rfl, Below.refl _ _⟩
      | true =>
        have hf := hfew rfl
        clear hfew
        go_wp2_with fail
        refine (fit_any a' n' c' ps' _ HL'.out hr' hm' HN'.out).mono ?_
        rintro e w1 ⟨b, rfl, rfl, hfew⟩
        cases b with
        | false =>
          go_wp2
          go_ret
          exact ⟨rfl, Below.refl _ _⟩
        | true =>
          have hf' := hfew rfl
          clear hfew
          go_wp2_with fail
          refine (cp_any a n c ps _ HL.out hr HC.out hf).mono ?_
          rintro e w2 ⟨a2, c2, qs, rfl, hl2, hr2, he2, hc2, _, hk2⟩
          have HQ : Hid (qs.length = n ∧ qs.map core = ps.map core ∧ (a2 = none → c2 = 0)) := ⟨hl2, he2, hc2⟩
          clear hl2 he2 hc2
          go_wp2_with fail
          refine (cp_any a' n' c' ps' _ HL'.out (hr'.kept hk2) HC'.out hf').mono ?_
          rintro e w3 ⟨a3, c3, qs', rfl, hl3, hr3, he3, hc3, _, hk3⟩
          have HQ' : Hid (qs'.length = n' ∧ qs'.map core = ps'.map core ∧ (a3 = none → c3 = 0)) := ⟨hl3, he3, hc3⟩
          have hr23 := hr2.kept hk3
          have HK3 : Hid (Kept [] _ w3) := hk2.next hk3
          clear hl3 he3 hc3 hr2 hk2 hk3
          go_wp2_with fail
          refine (to_any a2 n c2 qs _ HQ.out.1 hr23 HQ.out.2.2 (hf.of_core HQ.out.2.1)).mono ?_
          rintro e w4 ⟨a4, c4, rs, rfl, hl4, hr4, he4, hc4, _, hk4⟩
          have HR : Hid (rs.length = n ∧ rs.map core = ps.map core) := ⟨hl4, he4.trans HQ.out.2.1⟩
          have hr24 := hr23.kept hk4
          have hr34 := hr3.kept hk4
          have HK4 : Hid (Kept [] _ w4) := HK3.out.next hk4
          clear hl4 he4 hc4 hr23 hr3 hk4
          go_wp2_with fail
          refine (to_any a3 n' c3 qs' _ HQ'.out.1 hr34 HQ'.out.2.2 (hf'.of_core HQ'.out.2.1)).mono ?_
          rintro e w5 ⟨a5, c5, rs', rfl, hl5, hr5, he5, hc5, _, hk5⟩
          have HR' : Hid (rs'.length = n' ∧ rs'.map core = ps'.map core) := ⟨hl5, he5.trans HQ'.out.2.1⟩
          have hr25 := hr24.kept hk5
          have hr35 := hr34.kept hk5
          have hr45 := hr4.kept hk5
          have HK5 : Hid (Kept [] _ w5) := HK4.out.next hk5
          clear hl5 he5 hc5 hr24 hr34 hr4 hk5
          go_wp2_with fail
          refine (zzmoves_any a4 n c4 rs a5 n' c5 rs' _ HR.out.1 HR'.out.1 hr45 hr5 (hf.of_core HR.out.2) (hf'.of_core HR'.out.2) (hw.of_core HR.out.2) (hw'.of_core HR'.out.2)).mono ?_
          rintro e w6 ⟨g, cap, rfl, ho6, hk6⟩
          have hr26 := hr25.kept hk6
          have hr36 := hr35.kept hk6
          have HM : Hid (moves (rs.map core) (rs'.map core) = moves (ps.map core) (ps'.map core)) := by show _ = _; rw [HR.out.2, HR'.out.2]
          rw [HM.out] at ho6 ⊢
          have HG : Hid (RdM w6 (some ⟨g, 0, none⟩) (moves (ps.map core) (ps'.map core))) := rdM_of rfl ho6
          have HLE : Hid ((moves (ps.map core) (ps'.map core)).length ≤ 4096 * 4096) := by
            have := moves_take_le (ps.map core) hf' ps'.length
            rwa [List.take_length] at this
          have HK6 : Hid (Kept [] _ w6) := HK5.out.next hk6
          clear hr25 hr35 hr45 hr5 hk6 ho6
          generalize hms : moves (ps.map core) (ps'.map core) = ms at *
          have HMS : Hid (moves (ps.map core) (ps'.map core) = ms) := hms
          clear hms
          go_wp2_with fail
          refine (model18_any a2 n c2 qs a3 n' c3 qs' _ HQ.out.1 HQ'.out.1 hr26 hr36 (hf.of_core HQ.out.2.1) (hf'.of_core HQ'.out.2.1)).mono ?_
          rintro e w7 ⟨g', cap', rfl, ho7, hk7⟩
          have HM2 : Hid (moves (qs.map core) (qs'.map core) = ms) := by show _ = _; rw [HQ.out.2.1, HQ'.out.2.1]; exact HMS.out
          rw [HM2.out] at ho7 ⊢
          have HG2 : Hid (RdM w7 (some ⟨g', 0, none⟩) ms) := rdM_of rfl ho7
          have HG1 : Hid (RdM w7 (some ⟨g, 0, none⟩) ms) := HG.out.kept hk7
          have HK7 : Hid (Kept [] _ w7) := HK6.out.next hk7
          clear hr26 hr36 hk7 ho7
          go_wp2_with fail
          refine (same17_any (some ⟨g, 0, none⟩) (some ⟨g', 0, none⟩) ms.length cap cap' ms _ rfl HLE.out HG1.out HG2.out).mono ?_
          rintro e w8 ⟨rfl, hk8⟩
          go_wp2
          go_ret
          exact ⟨rfl, (HK7.out.next hk8).below (Nat.le_refl _) (by simp)⟩
    · go_wp2
      go_ret
      exact ⟨rfl, Below.refl _ _⟩

end Go.Proofs.Qxb6601940a
