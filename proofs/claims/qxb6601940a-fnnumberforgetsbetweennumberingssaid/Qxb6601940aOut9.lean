import Derived.Test.Qxb6601940aBytes
import Derived.Test.Qxb6601940aTopC
namespace Go.Proofs.Qxb6601940a
open Go.RowKit
set_option linter.unusedVariables false

/-! ### FnNumberForgetsBetweenNumberings: the ways out ahead of the numberings -/
set_option maxHeartbeats 1000000 in
set_option maxRecDepth 100000 in
theorem out9_bytes (a0 a1 a2 a3 a4 a5 : Option Addr) (n0 c0 n1 c1 n2 c2 n3 c3 n4 c4 n5 c5 : Nat) (v u : Int) (w : World) (hs : 1048576 < n0 + n1 + n2 + n3 + n4 + n5) :
    Calls Try.prog 9 #[.slice a0 n0 c0, .slice a1 n1 c1, .slice a2 n2 c2, .slice a3 n3 c3, .slice a4 n4 c4, .int .i64 v, .slice a5 n5 c5, .int .i64 u] w fun e w' => e = .returned (.bool true) ∧ Below w.heap.size w w' := by
  go_enter Try.func9, Try.ntmps9
  go_wp2_with fail
  refine (bytes35_no a0 a1 a2 a3 a4 a5 n0 c0 n1 c1 n2 c2 n3 c3 n4 c4 n5 c5 v u _ hs).mono ?_
  rintro e w1 ⟨rfl, rfl⟩
  go_wp2_with fail
  go_ret
  exact ⟨rfl, Below.refl _ _⟩

set_option maxHeartbeats 1000000 in
set_option maxRecDepth 100000 in
theorem out9_len (a0 a1 a2 a3 a4 a5 : Option Addr) (n0 c0 n1 c1 n2 c2 n3 c3 n4 c4 n5 c5 : Nat) (v u : Int) (w : World) (hs : n0 + n1 + n2 + n3 + n4 + n5 ≤ 1048576) (hd : (65536 < n0) ∨ (n0 ≤ 65536 ∧ 65536 < n1) ∨ (n0 ≤ 65536 ∧ n1 ≤ 65536 ∧ 65536 < n2) ∨ (n0 ≤ 65536 ∧ n1 ≤ 65536 ∧ n2 ≤ 65536 ∧ 65536 < n3) ∨ (n0 ≤ 65536 ∧ n1 ≤ 65536 ∧ n2 ≤ 65536 ∧ n3 ≤ 65536 ∧ 65536 < n4) ∨ (n0 ≤ 65536 ∧ n1 ≤ 65536 ∧ n2 ≤ 65536 ∧ n3 ≤ 65536 ∧ n4 ≤ 65536 ∧ 65536 < n5)) :
    Calls Try.prog 9 #[.slice a0 n0 c0, .slice a1 n1 c1, .slice a2 n2 c2, .slice a3 n3 c3, .slice a4 n4 c4, .int .i64 v, .slice a5 n5 c5, .int .i64 u] w fun e w' => e = .returned (.bool true) ∧ Below w.heap.size w w' := by
  rcases hd with h | ⟨h1, h2⟩ | ⟨h1, h2, h3⟩ | ⟨h1, h2, h3, h4⟩ | ⟨h1, h2, h3, h4, h5⟩ | ⟨h1, h2, h3, h4, h5, h6⟩
  all_goals
    go_enter Try.func9, Try.ntmps9
    go_wp2_with fail
    refine (bytes35_yes a0 a1 a2 a3 a4 a5 n0 c0 n1 c1 n2 c2 n3 c3 n4 c4 n5 c5 v u _ hs).mono ?_
    rintro e w1 ⟨rfl, rfl⟩
    go_wp2_with fail
    go_ret
    exact ⟨rfl, Below.refl _ _⟩

set_option maxHeartbeats 1000000 in
set_option maxRecDepth 100000 in
theorem out9_sum (a0 a1 a2 a3 a4 a5 : Option Addr) (n0 c0 n1 c1 n2 c2 n3 c3 n4 c4 n5 c5 : Nat) (v u : Int) (w : World) (hs : n0 + n1 + n2 + n3 + n4 + n5 ≤ 1048576) (h0 : n0 ≤ 65536) (h1 : n1 ≤ 65536) (h2 : n2 ≤ 65536) (h3 : n3 ≤ 65536) (h4 : n4 ≤ 65536) (h5 : n5 ≤ 65536) (h6 : 131072 < n0 + n1 + n2 + n3 + n4 + n5) :
    Calls Try.prog 9 #[.slice a0 n0 c0, .slice a1 n1 c1, .slice a2 n2 c2, .slice a3 n3 c3, .slice a4 n4 c4, .int .i64 v, .slice a5 n5 c5, .int .i64 u] w fun e w' => e = .returned (.bool true) ∧ Below w.heap.size w w' := by
  go_enter Try.func9, Try.ntmps9
  go_wp2_with fail
  refine (bytes35_yes a0 a1 a2 a3 a4 a5 n0 c0 n1 c1 n2 c2 n3 c3 n4 c4 n5 c5 v u _ hs).mono ?_
  rintro e w1 ⟨rfl, rfl⟩
  go_wp2_with fail
  go_ret
  exact ⟨rfl, Below.refl _ _⟩

set_option maxHeartbeats 1000000 in
set_option maxRecDepth 100000 in
theorem out9_vals (a0 a1 a2 a3 a4 a5 : Option Addr) (n0 c0 n1 c1 n2 c2 n3 c3 n4 c4 n5 c5 : Nat) (v u : Int) (w : World) (hs : n0 + n1 + n2 + n3 + n4 + n5 ≤ 1048576) (h0 : n0 ≤ 65536) (h1 : n1 ≤ 65536) (h2 : n2 ≤ 65536) (h3 : n3 ≤ 65536) (h4 : n4 ≤ 65536) (h5 : n5 ≤ 65536) (h6 : n0 + n1 + n2 + n3 + n4 + n5 ≤ 131072) (hd : v < 0 ∨ (0 ≤ v ∧ 65536 < v) ∨ (0 ≤ v ∧ v ≤ 65536 ∧ u < 0) ∨ (0 ≤ v ∧ v ≤ 65536 ∧ 0 ≤ u ∧ 65536 < u)) :
    Calls Try.prog 9 #[.slice a0 n0 c0, .slice a1 n1 c1, .slice a2 n2 c2, .slice a3 n3 c3, .slice a4 n4 c4, .int .i64 v, .slice a5 n5 c5, .int .i64 u] w fun e w' => e = .returned (.bool true) ∧ Below w.heap.size w w' := by
  rcases hd with h | ⟨q1, q2⟩ | ⟨q1, q2, q3⟩ | ⟨q1, q2, q3, q4⟩
  all_goals
    go_enter Try.func9, Try.ntmps9
    go_wp2_with fail
    refine (bytes35_yes a0 a1 a2 a3 a4 a5 n0 c0 n1 c1 n2 c2 n3 c3 n4 c4 n5 c5 v u _ hs).mono ?_
    rintro e w1 ⟨rfl, rfl⟩
    go_wp2_with fail
    go_ret
    exact ⟨rfl, Below.refl _ _⟩

set_option maxHeartbeats 1000000 in
set_option maxRecDepth 100000 in
theorem out9_keys (a0 a1 a2 a3 a4 a5 : Option Addr) (n0 c0 n1 c1 n2 c2 n3 c3 n4 c4 n5 c5 : Nat) (v u : Int) (xs0 ks js : List Int) (w : World) (hs : n0 + n1 + n2 + n3 + n4 + n5 ≤ 1048576) (h0 : n0 ≤ 65536) (h1 : n1 ≤ 65536) (h2 : n2 ≤ 65536) (h3 : n3 ≤ 65536) (h4 : n4 ≤ 65536) (h5 : n5 ≤ 65536) (h6 : n0 + n1 + n2 + n3 + n4 + n5 ≤ 131072) (q1 : 0 ≤ v) (q2 : v ≤ 65536) (q3 : 0 ≤ u) (q4 : u ≤ 65536)
    (HL : Hid (xs0.length = n0 ∧ ks.length = n4 ∧ js.length = n5)) (HR : Hid (Rd .i64 w a0 xs0 ∧ Rd .i64 w a4 ks ∧ Rd .i64 w a5 js)) (hd : allZ xs0 = false ∨ (allZ xs0 = true ∧ keysB v ks = false) ∨ (allZ xs0 = true ∧ keysB v ks = true ∧ keysB u js = false)) :
    Calls Try.prog 9 #[.slice a0 n0 c0, .slice a1 n1 c1, .slice a2 n2 c2, .slice a3 n3 c3, .slice a4 n4 c4, .int .i64 v, .slice a5 n5 c5, .int .i64 u] w fun e w' => e = .returned (.bool true) ∧ Below w.heap.size w w' := by
  rcases hd with hz | ⟨hz, hk⟩ | ⟨hz, hk, hj⟩
  · go_enter Try.func9, Try.ntmps9
    go_wp2_with fail
    refine (bytes35_yes a0 a1 a2 a3 a4 a5 n0 c0 n1 c1 n2 c2 n3 c3 n4 c4 n5 c5 v u _ hs).mono ?_
    rintro e w1 ⟨rfl, rfl⟩
    go_wp2_with fail
    refine (allZero_any a0 n0 c0 xs0 _ HL.out.1 (by omega) HR.out.1).mono ?_
    rintro e w2 ⟨rfl, rfl⟩
    rw [hz]
    go_wp2_with fail
    go_ret
    exact ⟨rfl, Below.refl _ _⟩
  · go_enter Try.func9, Try.ntmps9
    go_wp2_with fail
    refine (bytes35_yes a0 a1 a2 a3 a4 a5 n0 c0 n1 c1 n2 c2 n3 c3 n4 c4 n5 c5 v u _ hs).mono ?_
    rintro e w1 ⟨rfl, rfl⟩
    go_wp2_with fail
    refine (allZero_any a0 n0 c0 xs0 _ HL.out.1 (by omega) HR.out.1).mono ?_
    rintro e w2 ⟨rfl, rfl⟩
    rw [hz]
    go_wp2_with fail
    refine (keysIn_any a4 n4 c4 ks v _ HL.out.2.1 (by omega) HR.out.2.1).mono ?_
    rintro e w3 ⟨rfl, rfl⟩
    rw [hk]
    go_wp2_with fail
    go_ret
    exact ⟨rfl, Below.refl _ _⟩
  · go_enter Try.func9, Try.ntmps9
    go_wp2_with fail
    refine (bytes35_yes a0 a1 a2 a3 a4 a5 n0 c0 n1 c1 n2 c2 n3 c3 n4 c4 n5 c5 v u _ hs).mono ?_
    rintro e w1 ⟨rfl, rfl⟩
    go_wp2_with fail
    refine (allZero_any a0 n0 c0 xs0 _ HL.out.1 (by omega) HR.out.1).mono ?_
    rintro e w2 ⟨rfl, rfl⟩
    rw [hz]
    go_wp2_with fail
    refine (keysIn_any a4 n4 c4 ks v _ HL.out.2.1 (by omega) HR.out.2.1).mono ?_
    rintro e w3 ⟨rfl, rfl⟩
    rw [hk]
    go_wp2_with fail
    refine (keysIn_any a5 n5 c5 js u _ HL.out.2.2 (by omega) HR.out.2.2).mono ?_
    rintro e w4 ⟨rfl, rfl⟩
    rw [hj]
    go_wp2_with fail
    go_ret
    exact ⟨rfl, Below.refl _ _⟩

theorem top9_out (a0 a1 a2 a3 a4 a5 : Option Addr) (n0 c0 n1 c1 n2 c2 n3 c3 n4 c4 n5 c5 : Nat) (v u : Int) (xs0 ks js : List Int) (w : World) (l0 : xs0.length = n0) (l4 : ks.length = n4) (l5 : js.length = n5) (r0 : Rd .i64 w a0 xs0) (r4 : Rd .i64 w a4 ks) (r5 : Rd .i64 w a5 js)
    (h : ¬ (n0 + n1 + n2 + n3 + n4 + n5 ≤ 131072 ∧ n0 ≤ 65536 ∧ n1 ≤ 65536 ∧ n2 ≤ 65536 ∧ n3 ≤ 65536 ∧ n4 ≤ 65536 ∧ n5 ≤ 65536 ∧ 0 ≤ v ∧ v ≤ 65536 ∧ 0 ≤ u ∧ u ≤ 65536 ∧ allZ xs0 = true ∧ keysB v ks = true ∧ keysB u js = true)) :
    Calls Try.prog 9 #[.slice a0 n0 c0, .slice a1 n1 c1, .slice a2 n2 c2, .slice a3 n3 c3, .slice a4 n4 c4, .int .i64 v, .slice a5 n5 c5, .int .i64 u] w fun e w' => e = .returned (.bool true) ∧ Below w.heap.size w w' := by
  by_cases hs : n0 + n1 + n2 + n3 + n4 + n5 ≤ 1048576
  · by_cases hlen : n0 ≤ 65536 ∧ n1 ≤ 65536 ∧ n2 ≤ 65536 ∧ n3 ≤ 65536 ∧ n4 ≤ 65536 ∧ n5 ≤ 65536
    · obtain ⟨h0, h1, h2, h3, h4, h5⟩ := hlen
      by_cases h6 : n0 + n1 + n2 + n3 + n4 + n5 ≤ 131072
      · by_cases hvu : 0 ≤ v ∧ v ≤ 65536 ∧ 0 ≤ u ∧ u ≤ 65536
        · obtain ⟨q1, q2, q3, q4⟩ := hvu
          refine out9_keys a0 a1 a2 a3 a4 a5 n0 c0 n1 c1 n2 c2 n3 c3 n4 c4 n5 c5 v u xs0 ks js w hs h0 h1 h2 h3 h4 h5 h6 q1 q2 q3 q4 ⟨l0, l4, l5⟩ ⟨r0, r4, r5⟩ ?_
          cases hz : allZ xs0
          · exact .inl rfl
          · cases hk : keysB v ks
            · exact .inr (.inl ⟨rfl, rfl⟩)
            · cases hj : keysB u js
              · exact .inr (.inr ⟨rfl, rfl, rfl⟩)
              · exact absurd ⟨h6, h0, h1, h2, h3, h4, h5, q1, q2, q3, q4, hz, hk, hj⟩ h
        · exact out9_vals a0 a1 a2 a3 a4 a5 n0 c0 n1 c1 n2 c2 n3 c3 n4 c4 n5 c5 v u w hs h0 h1 h2 h3 h4 h5 h6 (by omega)
      · exact out9_sum a0 a1 a2 a3 a4 a5 n0 c0 n1 c1 n2 c2 n3 c3 n4 c4 n5 c5 v u w hs h0 h1 h2 h3 h4 h5 (by omega)
    · exact out9_len a0 a1 a2 a3 a4 a5 n0 c0 n1 c1 n2 c2 n3 c3 n4 c4 n5 c5 v u w hs (by omega)
  · exact out9_bytes a0 a1 a2 a3 a4 a5 n0 c0 n1 c1 n2 c2 n3 c3 n4 c4 n5 c5 v u w (by omega)

end Go.Proofs.Qxb6601940a
