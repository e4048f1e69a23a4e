import Derived.Test.Qxb6601940aMvB
namespace Go.Proofs.Qxb6601940a
open Go.RowKit
set_option linter.unusedVariables false

set_option maxHeartbeats 8000000 in
set_option maxRecDepth 100000 in
theorem zz10_any (a : Option Addr) (n c : Nat) (ps : List Pt) (a' : Option Addr) (n' c' : Nat) (ps' : List Pt) (w : World) (hl : ps.length = n) (hr : RdP w a ps) (hm : Lens ps) (hn : n ≤ maxLen)
    (hl' : ps'.length = n') (hr' : RdP w a' ps') (hm' : Lens ps') (hn' : n' ≤ maxLen) :
    Calls Try.prog 10 #[.slice a n c, .slice a' n' c'] w (Says True w) := by
  have HL : Hid (ps.length = n) := hl
  have HM : Hid (Lens ps) := hm
  have HL' : Hid (ps'.length = n') := hl'
  have HM' : Hid (Lens ps') := hm'
  clear hl hm hl' hm'
  unfold maxLen at hn hn'
  by_cases hn2 : n ≤ 1048576
  · have d1 : decide ((1048576 : Int) < (n : Int)) = false := by simp; omega
    go_enter Try.func10, Try.ntmps10
    go_wp2
    go_loop [5, 6] (fun z i => ∃ k m : Nat, k ≤ n ∧ i = .int .i64 k ∧ z = .int .i64 m ∧ m ≤ 1048576) (fun _ i => n - (intOf i).toNat)
    case atStart => exact ⟨0, n, Nat.zero_le _, rfl, by go_num, hn2⟩
    case round =>
      obtain ⟨k, m, hk, rfl, rfl, hm⟩ := hrel
      by_cases hlt : k < n
      · obtain ⟨p, hp⟩ := getElem?_lt HL.out hlt
        obtain ⟨b, off, ea, c0, c1, c2, c3, r, hc⟩ := hr.at hp
        subst ea
        have hm1 := HM.out p (List.mem_of_getElem? hp)
        unfold maxLen at hm1
        clear hp hr c1 hc HM hr'
        go_wp2
        iterate 6 (go_ret; exact Says.no _ _)
        go_loop [5, 7] (fun z j => ∃ q m : Nat, q ≤ p.reps.length ∧ j = .int .i64 q ∧ z = .int .i64 m ∧ m ≤ 1048576) (fun _ j => p.reps.length - (intOf j).toNat)
        case atStart => exact ⟨0, m + p.svc.size + p.rule.size + p.reps.length, Nat.zero_le _, rfl, by go_num, by omega⟩
        case round =>
          obtain ⟨q, m, hq, rfl, rfl, hm⟩ := hrel
          by_cases hlt2 : q < p.reps.length
          · obtain ⟨r1, hr1⟩ := getElem?_lt rfl hlt2
            obtain ⟨b1, off1, e1, d0, d1, d2, d3⟩ := r.at hr1
            rw [e1] at c3
            clear hr1 r d0
            go_wp2
            iterate 6 (go_ret; exact Says.no _ _)
            go_round
            case rel => exact ⟨q + 1, m + r1.node.size + r1.fd.size + r1.ud.size, by omega, by go_num, by go_num, by omega⟩
            case measure => simp [intOf]; omega
          · obtain rfl : q = p.reps.length := by omega
            go_wp2
            go_round
            case rel => exact ⟨k + 1, m, by omega, by go_num, by go_num, by omega⟩
            case measure => simp [intOf]; omega
      · obtain rfl : k = n := by omega
        clear hr HL HM d1
        by_cases hn3 : n' ≤ 1048576
        · have d2 : decide ((1048576 : Int) < (n' : Int)) = false := by simp; omega
          by_cases hn4 : m + n' ≤ 1048576
          · have d3 : decide ((1048576 : Int) < (m : Int) + (n' : Int)) = false := by simp; omega
            go_wp2
            go_loop [5, 8] (fun z i => ∃ k m : Nat, k ≤ n' ∧ i = .int .i64 k ∧ z = .int .i64 m ∧ m ≤ 1048576) (fun _ i => n' - (intOf i).toNat)
            case atStart => exact ⟨0, m + n', Nat.zero_le _, rfl, by go_num, hn4⟩
            case round =>
              clear d2 d3 hn4
              obtain ⟨k, m, hk, rfl, rfl, hm⟩ := hrel
              by_cases hlt : k < n'
              · obtain ⟨p, hp⟩ := getElem?_lt HL'.out hlt
                obtain ⟨b, off, ea, c0, c1, c2, c3, r, hc⟩ := hr'.at hp
                subst ea
                have hm1 := HM'.out p (List.mem_of_getElem? hp)
                unfold maxLen at hm1
                clear hp hr' c1 hc HM'
                go_wp2
                iterate 6 (go_ret; exact Says.no _ _)
                go_loop [5, 9] (fun z j => ∃ q m : Nat, q ≤ p.reps.length ∧ j = .int .i64 q ∧ z = .int .i64 m ∧ m ≤ 1048576) (fun _ j => p.reps.length - (intOf j).toNat)
                case atStart => exact ⟨0, m + p.svc.size + p.rule.size + p.reps.length, Nat.zero_le _, rfl, by go_num, by omega⟩
                case round =>
                  obtain ⟨q, m, hq, rfl, rfl, hm⟩ := hrel
                  by_cases hlt2 : q < p.reps.length
                  · obtain ⟨r1, hr1⟩ := getElem?_lt rfl hlt2
                    obtain ⟨b1, off1, e1, d0, d1, d2, d3⟩ := r.at hr1
                    rw [e1] at c3
                    clear hr1 r d0
                    go_wp2
                    iterate 6 (go_ret; exact Says.no _ _)
                    go_round
                    case rel => exact ⟨q + 1, m + r1.node.size + r1.fd.size + r1.ud.size, by omega, by go_num, by go_num, by omega⟩
                    case measure => simp [intOf]; omega
                  · obtain rfl : q = p.reps.length := by omega
                    go_wp2
                    go_round
                    case rel => exact ⟨k + 1, m, by omega, by go_num, by go_num, by omega⟩
                    case measure => simp [intOf]; omega
              · obtain rfl : k = n' := by omega
                go_wp2
                go_ret
                exact Says.yes _ trivial
          · have d3 : decide ((1048576 : Int) < (m : Int) + (n' : Int)) = true := by simp; omega
            go_wp2
            go_ret
            exact Says.no _ _
        · have d2 : decide ((1048576 : Int) < (n' : Int)) = true := by simp; omega
          go_wp2
          go_ret
          exact Says.no _ _
  · go_enter Try.func10, Try.ntmps10
    go_wp2
    go_ret
    exact Says.no _ _

end Go.Proofs.Qxb6601940a
