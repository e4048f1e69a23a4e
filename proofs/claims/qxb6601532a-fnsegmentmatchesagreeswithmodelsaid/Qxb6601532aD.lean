import Derived.Test.Qxb6601532aC
namespace Go.Proofs.Qxb6601532a
open Go.RowKit
set_option linter.unusedVariables false

theorem cloneS_any (a : Option Addr) (n c : Nat) (S : Nat → Bool) (w : World) (B : Nat) (hn : n ≤ 1048576) (hB : B ≤ w.heap.size) (hr : RdS w a n S) (h0 : a = none → c = 0) :
    Calls Try.prog 14 #[.slice a n c] w fun e w' => ∃ a' c', e = .returned (.slice a' n c') ∧ OwnS w' B (.slice a' n c') n S ∧ Kept [] w w' ∧ (∀ g, (Value.slice a' n c').ownBlock = some g → w.heap.size ≤ g) := by
  cases a with
  | none =>
    obtain rfl := h0 rfl
    obtain rfl := hr.1 rfl
    refine (cloneS_nil w).mono ?_
    rintro e w' ⟨rfl, rfl⟩
    exact ⟨none, 0, rfl, World.ownsRow_nil _ _ _ _, Kept.refl _ _, by simp [Value.ownBlock]⟩
  | some x =>
    refine (cloneS_some x n S c w B hn hB (fun i hi => hr.2 x rfl i (by omega))).mono ?_
    rintro e w' ⟨rfl, h1, h2⟩
    refine ⟨_, _, rfl, h1, h2, ?_⟩
    intro g hg
    simp [Value.ownBlock] at hg
    omega

/-- A product kept from the walk's arithmetic. -/
def sum256 (m k : Nat) : Nat := m + k * 256
theorem sum256_zero (m : Nat) : sum256 m 0 = m := by simp [sum256]
theorem sum256_succ (m k : Nat) : sum256 m (k + 1) = sum256 m k + 256 := by unfold sum256; rw [Nat.succ_mul]; omega
theorem sum256_mono {m k n : Nat} (h : k < n) : sum256 m k + 256 ≤ sum256 m n := by
  have := Nat.mul_le_mul_right 256 h
  unfold sum256
  rw [Nat.succ_mul] at this
  omega

set_option maxHeartbeats 1000000 in
set_option maxRecDepth 100000 in
theorem bytes_yes (a0 a1 : Option Addr) (n0 c0 n1 c1 : Nat) (s : ByteArray) (w : World) (h : sum256 (n0 + n1) n1 + s.size ≤ 1048576) :
    Calls Try.prog 12 #[.slice a0 n0 c0, .slice a1 n1 c1, .string s] w fun e w' => e = .returned (.bool true) ∧ w' = w := by
  have h1 : n0 + n1 ≤ sum256 (n0 + n1) n1 := by unfold sum256; exact Nat.le_add_right _ _
  go_enter Try.func12, Try.ntmps12
  go_wp2
  go_loop [7, 8] (fun t i => ∃ k : Nat, k ≤ n1 ∧ i = .int .i64 k ∧ t = .int .i64 (sum256 (n0 + n1) k : Int)) (fun _ i => n1 - (intOf i).toNat)
  case atStart => exact ⟨0, Nat.zero_le _, rfl, by rw [sum256_zero]; go_num⟩
  case round =>
    obtain ⟨k, hk, rfl, rfl⟩ := hrel
    by_cases hlt : k < n1
    · have hle : sum256 (n0 + n1) k ≤ 1048320 := by have := sum256_mono (m := n0 + n1) hlt; omega
      have HS : Hid (sum256 (n0 + n1) (k + 1) = sum256 (n0 + n1) k + 256) := sum256_succ _ _
      generalize sum256 (n0 + n1) k = z at *
      have hd : decide ((1048576 : Int) < (z : Int) + 256) = false := decide_eq_false (by omega)
      go_wp2
      go_round
      case rel => exact ⟨k + 1, by omega, by go_num, by rw [HS.out]; go_num⟩
      case measure => simp [intOf]; omega
    · obtain rfl : k = n1 := by omega
      generalize sum256 (n0 + k) k = z at *
      go_wp2
      go_ret
      exact ⟨rfl, rfl⟩

set_option maxHeartbeats 1000000 in
set_option maxRecDepth 100000 in
theorem bytes_no (a0 a1 : Option Addr) (n0 c0 n1 c1 : Nat) (s : ByteArray) (w : World) (h : 1048576 < sum256 (n0 + n1) n1 + s.size) :
    Calls Try.prog 12 #[.slice a0 n0 c0, .slice a1 n1 c1, .string s] w fun e w' => e = .returned (.bool false) ∧ w' = w := by
  by_cases h0 : 1048576 < n0
  · go_enter Try.func12, Try.ntmps12
    go_wp2
    go_ret
    exact ⟨rfl, rfl⟩
  by_cases h1 : 1048576 < n1
  · go_enter Try.func12, Try.ntmps12
    go_wp2
    go_ret
    exact ⟨rfl, rfl⟩
  by_cases h2 : 1048576 < n0 + n1
  · go_enter Try.func12, Try.ntmps12
    go_wp2
    go_ret
    exact ⟨rfl, rfl⟩
  go_enter Try.func12, Try.ntmps12
  go_wp2
  go_loop [7, 8] (fun t i => ∃ k : Nat, k ≤ n1 ∧ i = .int .i64 k ∧ sum256 (n0 + n1) k ≤ 1048576 ∧ t = .int .i64 (sum256 (n0 + n1) k : Int)) (fun _ i => n1 - (intOf i).toNat)
  case atStart => exact ⟨0, Nat.zero_le _, rfl, by rw [sum256_zero]; omega, by rw [sum256_zero]; go_num⟩
  case round =>
    obtain ⟨k, hk, rfl, hb, rfl⟩ := hrel
    by_cases hlt : k < n1
    · have HS : Hid (sum256 (n0 + n1) (k + 1) = sum256 (n0 + n1) k + 256) := sum256_succ _ _
      clear h
      generalize sum256 (n0 + n1) k = z at *
      by_cases hle : z ≤ 1048320
      · have hd : decide ((1048576 : Int) < (z : Int) + 256) = false := decide_eq_false (by omega)
        go_wp2
        go_round
        case rel => exact ⟨k + 1, by omega, by go_num, by rw [HS.out]; omega, by rw [HS.out]; go_num⟩
        case measure => simp [intOf]; omega
      · have hd : decide ((1048576 : Int) < (z : Int) + 256) = true := decide_eq_true (by omega)
        go_wp2
        go_ret
        exact ⟨rfl, rfl⟩
    · obtain rfl : k = n1 := by omega
      generalize sum256 (n0 + k) k = z at *
      by_cases h3 : 1048576 < s.size
      · go_wp2
        go_ret
        exact ⟨rfl, rfl⟩
      · go_wp2
        go_ret
        exact ⟨rfl, rfl⟩

end Go.Proofs.Qxb6601532a
