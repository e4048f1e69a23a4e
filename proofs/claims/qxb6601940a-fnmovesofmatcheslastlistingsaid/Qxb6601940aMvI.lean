import Derived.Test.Qxb6601940aMvB
import Derived.Test.Qxb6601940aMvF
namespace Go.Proofs.Qxb6601940a
open Go.RowKit
set_option linter.unusedVariables false

/-- Some number of at most 2097152 comes back. -/
def SaysN (w : World) (e : Ending) (w' : World) : Prop := ∃ m : Nat, e = .returned (.int .i64 m) ∧ w' = w ∧ m ≤ 2097152
set_option maxHeartbeats 400000 in
set_option maxRecDepth 100000 in
theorem cap_any (n k : Nat) (w : World) (hn : n ≤ 2097152) : Calls Try.prog 11 #[.int .i64 n, .int .i64 k] w (SaysN w) := by
  by_cases h1 : n ≤ 1048576
  · by_cases h2 : k ≤ 1048576
    · go_enter Try.func11, Try.ntmps11
      go_wp2
      go_ret
      exact ⟨n + k, by go_num, rfl, by omega⟩
    · go_enter Try.func11, Try.ntmps11
      go_wp2
      go_ret
      exact ⟨1048577, by go_num, rfl, by omega⟩
  · go_enter Try.func11, Try.ntmps11
    go_wp2
    go_ret
    exact ⟨1048577, by go_num, rfl, by omega⟩

set_option maxHeartbeats 4000000 in
set_option maxRecDepth 100000 in
theorem bytes12_any (a : Option Addr) (n c : Nat) (ps : List Pt) (w : World) (hl : ps.length = n) (hr : RdP w a ps) (hm : Lens ps) (hn : n ≤ maxLen) :
    Calls Try.prog 12 #[.slice a n c] w (SaysN w) := by
  have HL : Hid (ps.length = n) := hl
  have HM : Hid (Lens ps) := hm
  clear hl hm
  unfold maxLen at hn
  go_enter Try.func12, Try.ntmps12
  go_wp2
  go_loop [3, 4] (fun z i => ∃ k m : Nat, k ≤ n ∧ i = .int .i64 k ∧ z = .int .i64 m ∧ m ≤ 2097152) (fun _ i => n - (intOf i).toNat)
  case atStart => exact ⟨0, 0, Nat.zero_le _, rfl, rfl, by omega⟩
  case round =>
    obtain ⟨k, m, hk, rfl, rfl, hm⟩ := hrel
    by_cases hlt : k < n
    · obtain ⟨p, hp⟩ := getElem?_lt HL.out hlt
      obtain ⟨b, off, rfl, c0, c1, c2, c3, r, hc⟩ := hr.at hp
      have hm1 := HM.out p (List.mem_of_getElem? hp)
      unfold maxLen at hm1
      clear hp hr c1 hc HM
      go_wp2_with fail
      refine (cap_any m 64 _ hm).mono ?_
      rintro e w1 ⟨m1, rfl, rfl, h1⟩
      go_wp2_with fail
      refine (cap_any m1 p.svc.size _ h1).mono ?_
      rintro e w2 ⟨m2, rfl, rfl, h2⟩
      go_wp2_with fail
      refine (cap_any m2 p.rule.size _ h2).mono ?_
      rintro e w3 ⟨m3, rfl, rfl, h3⟩
      go_wp2
      go_loop [3, 6] (fun z j => ∃ q m : Nat, q ≤ p.reps.length ∧ j = .int .i64 q ∧ z = .int .i64 m ∧ m ≤ 2097152) (fun _ j => p.reps.length - (intOf j).toNat)
      case atStart => exact ⟨0, m3, Nat.zero_le _, rfl, rfl, h3⟩
      case round =>
        obtain ⟨q, m, hq, rfl, rfl, hm⟩ := hrel
        by_cases hlt2 : q < p.reps.length
        · obtain ⟨r1, hr1⟩ := getElem?_lt rfl hlt2
          obtain ⟨b1, off1, e1, d0, d1, d2, d3⟩ := r.at hr1
          obtain ⟨svc, num, rule, ra, rc, reps⟩ := p
          simp only at e1 c0 c2 c3 hlt2 hq
          subst e1
          clear hr1 r d0
          go_wp2_with fail
          refine (cap_any m 56 _ hm).mono ?_
          rintro e w4 ⟨m4, rfl, rfl, h4⟩
          go_wp2_with fail
          refine (cap_any m4 r1.node.size _ h4).mono ?_
          rintro e w5 ⟨m5, rfl, rfl, h5⟩
          go_wp2_with fail
          refine (cap_any m5 r1.fd.size _ h5).mono ?_
          rintro e w6 ⟨m6, rfl, rfl, h6⟩
          go_wp2_with fail
          refine (cap_any m6 r1.ud.size _ h6).mono ?_
          rintro e w7 ⟨m7, rfl, rfl, h7⟩
          by_cases h8 : m7 ≤ 1048576
          · go_wp2
            go_round
            case rel => exact ⟨q + 1, m7, by omega, by go_num, rfl, h7⟩
            case measure => simp [intOf]; omega
          · go_wp2
            go_ret
            exact ⟨m7, rfl, rfl, h7⟩
        · obtain rfl : q = p.reps.length := by omega
          by_cases h8 : m ≤ 1048576
          · go_wp2
            go_round
            case rel => exact ⟨k + 1, m, by omega, by go_num, rfl, hm⟩
            case measure => simp [intOf]; omega
          · go_wp2
            go_ret
            exact ⟨m, rfl, rfl, hm⟩
    · obtain rfl : k = n := by omega
      go_wp2
      go_ret
      exact ⟨m, rfl, rfl, hm⟩

end Go.Proofs.Qxb6601940a
