import Derived.Test.Qxb6601940aBytes
namespace Go.Proofs.Qxb6601940a
open Go.RowKit
set_option linter.unusedVariables false

/-! ### FnNumberByFirstOccurrence: the ways out ahead of the numbering -/
set_option maxHeartbeats 1000000 in
set_option maxRecDepth 100000 in
theorem top7_out (a0 a1 a2 a3 a4 : Option Addr) (n0 c0 n1 c1 n2 c2 n3 c3 n4 c4 : Nat) (v : Int) (xs0 xs4 : List Int) (w : World) (hl0 : xs0.length = n0) (hl4 : xs4.length = n4) (hr0 : Rd .i64 w a0 xs0) (hr4 : Rd .i64 w a4 xs4)
    (h : ¬ (n0 + n1 + n2 + n3 + n4 ≤ 131072 ∧ n0 ≤ 65536 ∧ n1 ≤ 65536 ∧ n2 ≤ 65536 ∧ n3 ≤ 65536 ∧ n4 ≤ 4096 ∧ 0 ≤ v ∧ v ≤ 65536 ∧ allZ xs0 = true ∧ keysB v xs4 = true)) :
    Calls Try.prog 7 #[.slice a0 n0 c0, .slice a1 n1 c1, .slice a2 n2 c2, .slice a3 n3 c3, .slice a4 n4 c4, .int .i64 v] w fun e w' => e = .returned (.bool true) ∧ Below w.heap.size w w' := by
  have HL0 : Hid (xs0.length = n0) := hl0
  have HL4 : Hid (xs4.length = n4) := hl4
  have HR0 : Hid (Rd .i64 w a0 xs0) := hr0
  have HR4 : Hid (Rd .i64 w a4 xs4) := hr4
  clear hl0 hl4 hr0 hr4
  by_cases hs : 1048576 < n0 + n1 + n2 + n3 + n4
  · clear h
    go_enter Try.func7, Try.ntmps7
    go_wp2_with fail
    refine (bytes30_no a0 a1 a2 a3 a4 n0 c0 n1 c1 n2 c2 n3 c3 n4 c4 v _ hs).mono ?_
    rintro e w1 ⟨rfl, rfl⟩
    go_wp2_with fail
    go_ret
    exact ⟨rfl, Below.refl _ _⟩
  · have hs' : n0 + n1 + n2 + n3 + n4 ≤ 1048576 := by omega
    clear hs
    by_cases hlen : n0 ≤ 65536 ∧ n1 ≤ 65536 ∧ n2 ≤ 65536 ∧ n3 ≤ 65536 ∧ n4 ≤ 4096
    · obtain ⟨h0, h1, h2, h3, h4⟩ := hlen
      by_cases hs2 : n0 + n1 + n2 + n3 + n4 ≤ 131072
      · by_cases hv0 : v < 0
        · clear h
          go_enter Try.func7, Try.ntmps7
          go_wp2_with fail
          refine (bytes30_yes a0 a1 a2 a3 a4 n0 c0 n1 c1 n2 c2 n3 c3 n4 c4 v _ hs').mono ?_
          rintro e w1 ⟨rfl, rfl⟩
          go_wp2_with fail
          go_ret
          exact ⟨rfl, Below.refl _ _⟩
        · by_cases hv1 : 65536 < v
          · clear h
            go_enter Try.func7, Try.ntmps7
            go_wp2_with fail
            refine (bytes30_yes a0 a1 a2 a3 a4 n0 c0 n1 c1 n2 c2 n3 c3 n4 c4 v _ hs').mono ?_
            rintro e w1 ⟨rfl, rfl⟩
            go_wp2_with fail
            go_ret
            exact ⟨rfl, Below.refl _ _⟩
          · cases hz : allZ xs0
            · clear h
              go_enter Try.func7, Try.ntmps7
              go_wp2_with fail
              refine (bytes30_yes a0 a1 a2 a3 a4 n0 c0 n1 c1 n2 c2 n3 c3 n4 c4 v _ hs').mono ?_
              rintro e w1 ⟨rfl, rfl⟩
              go_wp2_with fail
              refine (allZero_any a0 n0 c0 xs0 _ HL0.out (by omega) HR0.out).mono ?_
              rintro e w2 ⟨rfl, rfl⟩
              rw [hz]
              go_wp2_with fail
              go_ret
              exact ⟨rfl, Below.refl _ _⟩
            · cases hk : keysB v xs4
              · clear h
                go_enter Try.func7, Try.ntmps7
                go_wp2_with fail
                refine (bytes30_yes a0 a1 a2 a3 a4 n0 c0 n1 c1 n2 c2 n3 c3 n4 c4 v _ hs').mono ?_
                rintro e w1 ⟨rfl, rfl⟩
                go_wp2_with fail
                refine (allZero_any a0 n0 c0 xs0 _ HL0.out (by omega) HR0.out).mono ?_
                rintro e w2 ⟨rfl, rfl⟩
                rw [hz]
                go_wp2_with fail
                refine (keysIn_any a4 n4 c4 xs4 v _ HL4.out (by omega) HR4.out).mono ?_
                rintro e w3 ⟨rfl, rfl⟩
                rw [hk]
                go_wp2_with fail
                go_ret
                exact ⟨rfl, Below.refl _ _⟩
              · exact absurd ⟨hs2, h0, h1, h2, h3, h4, by omega, by omega, hz, hk⟩ h
      · clear h
        go_enter Try.func7, Try.ntmps7
        go_wp2_with fail
        refine (bytes30_yes a0 a1 a2 a3 a4 n0 c0 n1 c1 n2 c2 n3 c3 n4 c4 v _ hs').mono ?_
        rintro e w1 ⟨rfl, rfl⟩
        go_wp2_with fail
        go_ret
        exact ⟨rfl, Below.refl _ _⟩
    · have hd : 65536 < n0 ∨ (n0 ≤ 65536 ∧ 65536 < n1) ∨ (n0 ≤ 65536 ∧ n1 ≤ 65536 ∧ 65536 < n2) ∨ (n0 ≤ 65536 ∧ n1 ≤ 65536 ∧ n2 ≤ 65536 ∧ 65536 < n3) ∨ (n0 ≤ 65536 ∧ n1 ≤ 65536 ∧ n2 ≤ 65536 ∧ n3 ≤ 65536 ∧ 4096 < n4) := by omega
      clear h hlen
      rcases hd with h | ⟨h1, h2⟩ | ⟨h1, h2, h3⟩ | ⟨h1, h2, h3, h4⟩ | ⟨h1, h2, h3, h4, h5⟩
      all_goals
        go_enter Try.func7, Try.ntmps7
        go_wp2_with fail
        refine (bytes30_yes a0 a1 a2 a3 a4 n0 c0 n1 c1 n2 c2 n3 c3 n4 c4 v _ hs').mono ?_
        rintro e w1 ⟨rfl, rfl⟩
        go_wp2_with fail
        go_ret
        exact ⟨rfl, Below.refl _ _⟩

end Go.Proofs.Qxb6601940a
