import Derived.Test.Qxb6601940aClD
namespace Go.Proofs.Qxb6601940a
open Go.RowKit
set_option linter.unusedVariables false

set_option maxHeartbeats 1000000 in
set_option maxRecDepth 100000 in
theorem out5_bytes (a0 a1 a2 a3 : Option Addr) (n0 c0 n1 c1 n2 c2 n3 c3 : Nat) (w : World) (hs : 1048576 < n0 + n1 + n2 + n3) :
    Calls Try.prog 5 #[.slice a0 n0 c0, .slice a1 n1 c1, .slice a2 n2 c2, .slice a3 n3 c3] w fun e w' => e = .returned (.bool true) ∧ Below w.heap.size w w' := by
  go_enter Try.func5, Try.ntmps5
  go_wp2_with fail
  refine (bytes21_no a0 a1 a2 a3 n0 c0 n1 c1 n2 c2 n3 c3 _ hs).mono ?_
  rintro e w1 ⟨rfl, rfl⟩
  go_wp2_with fail
  go_ret
  exact ⟨rfl, Below.refl _ _⟩

set_option maxHeartbeats 1000000 in
set_option maxRecDepth 100000 in
theorem out5_len (a0 a1 a2 a3 : Option Addr) (n0 c0 n1 c1 n2 c2 n3 c3 : Nat) (w : World) (hs : n0 + n1 + n2 + n3 ≤ 1048576) (hd : (65536 < n0) ∨ (n0 ≤ 65536 ∧ 4096 < n1) ∨ (n0 ≤ 65536 ∧ n1 ≤ 4096 ∧ 4096 < n2) ∨ (n0 ≤ 65536 ∧ n1 ≤ 4096 ∧ n2 ≤ 4096 ∧ 4096 < n3)) :
    Calls Try.prog 5 #[.slice a0 n0 c0, .slice a1 n1 c1, .slice a2 n2 c2, .slice a3 n3 c3] w fun e w' => e = .returned (.bool true) ∧ Below w.heap.size w w' := by
  rcases hd with h | ⟨h1, h2⟩ | ⟨h1, h2, h3⟩ | ⟨h1, h2, h3, h4⟩
  all_goals
    go_enter Try.func5, Try.ntmps5
    go_wp2_with fail
    refine (bytes21_yes a0 a1 a2 a3 n0 c0 n1 c1 n2 c2 n3 c3 _ hs).mono ?_
    rintro e w1 ⟨rfl, rfl⟩
    go_wp2_with fail
    go_ret
    exact ⟨rfl, Below.refl _ _⟩

set_option maxHeartbeats 1000000 in
set_option maxRecDepth 100000 in
theorem out5_dom (a0 a1 a2 a3 : Option Addr) (n0 c0 n1 c1 n2 c2 n3 c3 : Nat) (ofs ids gone : List Int) (w : World) (hl0 : ofs.length = n0) (hl2 : ids.length = n2) (hl3 : gone.length = n3) (hn0 : n0 ≤ 65536) (hn1 : n1 ≤ 4096) (hn2 : n2 ≤ 4096) (hn3 : n3 ≤ 4096) (h : 4 * n0 + 8 * (n1 + n2 + n3) ≤ 1048576)
    (hr0 : Rd .i32 w a0 ofs) (hr2 : Rd .i64 w a2 ids) (hr3 : Rd .i64 w a3 gone) (hof : ∀ j, -2147483648 ≤ ofs.getD j 0 ∧ ofs.getD j 0 ≤ 2147483647) (hd : domB ofs a0 a2 a3 n1 ids gone = false) :
    Calls Try.prog 5 #[.slice a0 n0 c0, .slice a1 n1 c1, .slice a2 n2 c2, .slice a3 n3 c3] w fun e w' => e = .returned (.bool true) ∧ Below w.heap.size w w' := by
  have HL : Hid (ofs.length = n0 ∧ ids.length = n2 ∧ gone.length = n3 ∧ ∀ j, -2147483648 ≤ ofs.getD j 0 ∧ ofs.getD j 0 ≤ 2147483647) := ⟨hl0, hl2, hl3, hof⟩
  have HD : Hid (domB ofs a0 a2 a3 n1 ids gone = false) := hd
  have hs : n0 + n1 + n2 + n3 ≤ 1048576 := by omega
  clear hl0 hl2 hl3 hof hd
  go_enter Try.func5, Try.ntmps5
  go_wp2_with fail
  refine (bytes21_yes a0 a1 a2 a3 n0 c0 n1 c1 n2 c2 n3 c3 _ hs).mono ?_
  rintro e w1 ⟨rfl, rfl⟩
  go_wp2_with fail
  refine (dom_any a0 n0 c0 ofs a1 n1 c1 a2 n2 c2 ids a3 n3 c3 gone _ HL.out.1 HL.out.2.1 HL.out.2.2.1 (by omega) (by omega) (by omega) (by omega) hr0 hr2 hr3 HL.out.2.2.2).mono ?_
  rintro e w2 ⟨rfl, rfl⟩
  rw [HD.out]
  go_wp2_with fail
  go_ret
  exact ⟨rfl, Below.refl _ _⟩

theorem top5_out (a0 a1 a2 a3 : Option Addr) (n0 c0 n1 c1 n2 c2 n3 c3 : Nat) (ofs ids gone : List Int) (w : World) (hl0 : ofs.length = n0) (hl2 : ids.length = n2) (hl3 : gone.length = n3)
    (hr0 : Rd .i32 w a0 ofs) (hr2 : Rd .i64 w a2 ids) (hr3 : Rd .i64 w a3 gone) (hof : ∀ j, -2147483648 ≤ ofs.getD j 0 ∧ ofs.getD j 0 ≤ 2147483647)
    (h : ¬ (n0 ≤ 65536 ∧ n1 ≤ 4096 ∧ n2 ≤ 4096 ∧ n3 ≤ 4096 ∧ 4 * n0 + 8 * (n1 + n2 + n3) ≤ 1048576 ∧ domB ofs a0 a2 a3 n1 ids gone = true)) :
    Calls Try.prog 5 #[.slice a0 n0 c0, .slice a1 n1 c1, .slice a2 n2 c2, .slice a3 n3 c3] w fun e w' => e = .returned (.bool true) ∧ Below w.heap.size w w' := by
  by_cases hs : n0 + n1 + n2 + n3 ≤ 1048576
  · by_cases h0 : n0 ≤ 65536
    · by_cases h1 : n1 ≤ 4096
      · by_cases h2 : n2 ≤ 4096
        · by_cases h3 : n3 ≤ 4096
          · by_cases h4 : 4 * n0 + 8 * (n1 + n2 + n3) ≤ 1048576
            · cases hd : domB ofs a0 a2 a3 n1 ids gone with
              | true => exact absurd ⟨h0, h1, h2, h3, h4, hd⟩ h
              | false => exact out5_dom a0 a1 a2 a3 n0 c0 n1 c1 n2 c2 n3 c3 ofs ids gone w hl0 hl2 hl3 h0 h1 h2 h3 h4 hr0 hr2 hr3 hof hd
            · omega
          · exact out5_len a0 a1 a2 a3 n0 c0 n1 c1 n2 c2 n3 c3 w hs (.inr (.inr (.inr ⟨h0, h1, h2, by omega⟩)))
        · exact out5_len a0 a1 a2 a3 n0 c0 n1 c1 n2 c2 n3 c3 w hs (.inr (.inr (.inl ⟨h0, h1, by omega⟩)))
      · exact out5_len a0 a1 a2 a3 n0 c0 n1 c1 n2 c2 n3 c3 w hs (.inr (.inl ⟨h0, by omega⟩))
    · exact out5_len a0 a1 a2 a3 n0 c0 n1 c1 n2 c2 n3 c3 w hs (.inl (by omega))
  · exact out5_bytes a0 a1 a2 a3 n0 c0 n1 c1 n2 c2 n3 c3 w (by omega)

end Go.Proofs.Qxb6601940a
