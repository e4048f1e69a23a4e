import Derived.Test.Qxb6003130aWalkB
namespace Go.Proofs.Qxb6003130a
open Go.RowKit

theorem clone_any (a : Option Addr) (n c : Nat) (xs : List Int) (w : World) (B : Nat) (hl : xs.length = n) (hn : n ≤ 2000000) (hB : B ≤ w.heap.size) (hr : Rd .u8 w a xs) (h0 : a = none → c = 0) :
    Calls Try.prog 6 #[.slice a n c] w fun e w' => ∃ a' c', e = .returned (.slice a' n c') ∧ Own 5 .u8 w' B (.slice a' n c') n xs ∧ Kept [] w w' ∧ (∀ g, (Value.slice a' n c').ownBlock = some g → w.heap.size ≤ g) := by
  cases a with
  | none =>
    obtain rfl := h0 rfl
    obtain rfl := hr.1 rfl
    obtain rfl : n = 0 := by simpa using hl.symm
    refine (clone_nil w).mono ?_
    rintro e w' ⟨rfl, rfl⟩
    exact ⟨none, 0, rfl, Own.nil _ _, Kept.refl _ _, by simp [Value.ownBlock]⟩
  | some x =>
    refine (clone_some x n xs c w B hl hn hB (fun i hi => hr.2 x rfl i (by omega))).mono ?_
    rintro e w' ⟨rfl, h1, h2⟩
    refine ⟨_, _, rfl, h1, h2, ?_⟩
    intro g hg
    simp [Value.ownBlock] at hg
    omega

set_option maxHeartbeats 400000 in
theorem bytes_yes (a : Option Addr) (n c : Nat) (x y : Int) (w : World) (hn : n ≤ 1048576) :
    Calls Try.prog 9 #[.slice a n c, .int .i64 x, .int .i64 y] w fun e w' => e = .returned (.bool true) ∧ w' = w := by
  go_enter Try.func9, Try.ntmps9
  go_wp2
  go_ret
  exact ⟨rfl, rfl⟩
set_option maxHeartbeats 400000 in
theorem bytes_no (a : Option Addr) (n c : Nat) (x y : Int) (w : World) (hn : 1048576 < n) :
    Calls Try.prog 9 #[.slice a n c, .int .i64 x, .int .i64 y] w fun e w' => e = .returned (.bool false) ∧ w' = w := by
  go_enter Try.func9, Try.ntmps9
  go_wp2
  go_ret
  exact ⟨rfl, rfl⟩

set_option maxHeartbeats 400000 in
theorem top_no (a : Option Addr) (n c : Nat) (x y : Int) (w : World) (hn : 1048576 < n) :
    Calls Try.prog 4 #[.slice a n c, .int .i64 x, .int .i64 y] w fun e w' => e = .returned (.bool true) ∧ Below w.heap.size w w' := by
  go_enter Try.func4, Try.ntmps4
  go_wp2_with fail
  refine (bytes_no a n c x y _ hn).mono ?_
  rintro e w1 ⟨rfl, rfl⟩
  go_wp2_with fail
  go_ret
  exact ⟨rfl, Below.refl _ _⟩

set_option maxHeartbeats 400000 in
theorem top_out (a : Option Addr) (n c : Nat) (x y : Int) (w : World) (hn : n ≤ 1048576) (hxy : x < 0 ∨ (0 ≤ x ∧ 65536 < x) ∨ (0 ≤ x ∧ x ≤ 65536 ∧ y < 0) ∨ (0 ≤ x ∧ x ≤ 65536 ∧ 0 ≤ y ∧ 65536 < y)) :
    Calls Try.prog 4 #[.slice a n c, .int .i64 x, .int .i64 y] w fun e w' => e = .returned (.bool true) ∧ Below w.heap.size w w' := by
  rcases hxy with h | ⟨h1, h2⟩ | ⟨h1, h2, h3⟩ | ⟨h1, h2, h3, h4⟩
  all_goals
    go_enter Try.func4, Try.ntmps4
    go_wp2_with fail
    refine (bytes_yes a n c x y _ hn).mono ?_
    rintro e w1 ⟨rfl, rfl⟩
    go_wp2_with fail
    go_ret
    exact ⟨rfl, Below.refl _ _⟩

set_option maxHeartbeats 1000000 in
theorem top_in (a : Option Addr) (n c : Nat) (xs : List Int) (x y : Nat) (w : World) (hn : n ≤ 1048576) (hx : x ≤ 65536) (hy : y ≤ 65536) (hl : xs.length = n) (hr : Rd .u8 w a xs) (h0 : a = none → c = 0) :
    Calls Try.prog 4 #[.slice a n c, .int .i64 x, .int .i64 y] w fun e w' => e = .returned (.bool true) ∧ Below w.heap.size w w' := by
  have HR : Hid (Rd .u8 w a xs) := hr
  have H0 : Hid (a = none → c = 0) := h0
  have HL : Hid (xs.length = n) := hl
  clear hr h0 hl
  go_enter Try.func4, Try.ntmps4
  go_wp2_with fail
  refine (bytes_yes a n c x y _ hn).mono ?_
  rintro e w1 ⟨rfl, rfl⟩
  go_wp2_with fail
  refine (clone_any a n c xs _ w1.heap.size HL.out (by omega) (Nat.le_refl _) HR.out H0.out).mono ?_
  rintro e w2 ⟨a2, c2, rfl, o2, k2, _⟩
  have H2 : Hid (a2 = none → c2 = 0) := by
    intro e; rcases o2.shape with ⟨hv, _⟩ | ⟨g, cap, hv, _⟩
    · simp at hv; exact hv.2.2
    · simp [e] at hv
  have s2 := k2.size
  go_wp2_with fail
  refine (clone_any a2 n c2 xs _ w1.heap.size HL.out (by omega) s2 o2.rd H2.out).mono ?_
  rintro e w3 ⟨a3, c3, rfl, o3, k3, n3⟩
  have s3 := k3.size
  have o23 := o2.kept0 k3
  go_wp2_with fail
  refine (clone_any a2 n c2 xs _ w1.heap.size HL.out (by omega) (by omega) o23.rd H2.out).mono ?_
  rintro e w4 ⟨a4, c4, rfl, o4, k4, n4⟩
  have s4 := k4.size
  have o24 := o23.kept0 k4
  have o34 := o3.kept0 k4
  go_wp2_with fail
  refine (clone_any a2 n c2 xs _ w1.heap.size HL.out (by omega) (by omega) o24.rd H2.out).mono ?_
  rintro e w5 ⟨a5, c5, rfl, o5, k5, n5⟩
  have s5 := k5.size
  have o35 := o34.kept0 k5
  have o45 := o4.kept0 k5
  go_wp2_with fail
  refine (zzspaces_any a4 n c4 xs x _ w1.heap.size (by omega) (by omega) o45).mono ?_
  rintro e w6 ⟨a6, c6, rfl, o6, k6, b6⟩
  have s6 := k6.size
  have f3 := o3.lt
  have f4 := o4.lt
  have f5 := o5.lt
  have o36 := o35.kept k6 (by
    intro g hg hm
    have h1 : (Value.slice a4 n c4).ownBlock = some g := by simpa [eq_comm] using hm
    have := n4 g h1; have := f3 g hg; omega)
  have o56 := o5.kept k6 (by
    intro g hg hm
    have h1 : (Value.slice a4 n c4).ownBlock = some g := by simpa [eq_comm] using hm
    have := f4 g h1; have := n5 g hg; omega)
  go_wp2_with fail
  refine (zzspaces_any a6 (n + x) c6 _ y _ w1.heap.size (by omega) (by omega) o6).mono ?_
  rintro e w7 ⟨a7, c7, rfl, o7, k7, b7⟩
  have s7 := k7.size
  have o37 := o36.kept k7 (by
    intro g hg hm
    have h1 : (Value.slice a6 (n + x) c6).ownBlock = some g := by simpa [eq_comm] using hm
    have h3 := f3 g hg
    have := n4 g (b6 g h1 (by omega)); omega)
  have o57 := o56.kept k7 (by
    intro g hg hm
    have h1 : (Value.slice a6 (n + x) c6).ownBlock = some g := by simpa [eq_comm] using hm
    have h3 := f5 g hg
    have := f4 g (b6 g h1 (by omega)); have := n5 g hg; omega)
  have e7 : xs ++ List.replicate x 32 ++ List.replicate y 32 = xs ++ List.replicate (x + y) 32 := by rw [List.append_assoc, List.replicate_append_replicate]
  rw [e7, Nat.add_assoc] at o7
  rw [Nat.add_assoc] at b7 ⊢
  clear e7
  go_wp2_with fail
  rw [show (x : Int) + (y : Int) = ((x + y : Nat) : Int) from by omega]
  refine (zzspaces_any a5 n c5 xs (x + y) _ w1.heap.size (by omega) (by omega) o57).mono ?_
  rintro e w8 ⟨a8, c8, rfl, o8, k8, b8⟩
  have s8 := k8.size
  have o38 := o37.kept k8 (by
    intro g hg hm
    have h1 : (Value.slice a5 n c5).ownBlock = some g := by simpa [eq_comm] using hm
    have := n5 g h1; have := f3 g hg; omega)
  have o78 := o7.kept k8 (by
    intro g hg hm
    have h1 : (Value.slice a5 n c5).ownBlock = some g := by simpa [eq_comm] using hm
    have h5 := f5 g h1
    have h6 := n5 g h1
    have h7 := b7 g hg (by omega)
    have h8 := f4 g (b6 g h7 (by omega)); omega)
  go_wp2_with fail
  rw [show (x : Int) + (y : Int) = ((x + y : Nat) : Int) from by omega]
  refine (same_any a3 a7 n c3 c7 xs (x + y) _ w1.heap.size w1.heap.size (by omega) o78 o38).mono ?_
  rintro e w9 ⟨rfl, k9⟩
  go_wp2_with fail
  rw [show (x : Int) + (y : Int) = ((x + y : Nat) : Int) from by omega]
  refine (same_any a3 a8 n c3 c8 xs (x + y) _ w1.heap.size w1.heap.size (by omega) (o8.kept0 k9) (o38.kept0 k9)).mono ?_
  rintro e w10 ⟨rfl, k10⟩
  go_wp2_with fail
  go_ret
  refine ⟨rfl, ?_⟩
  have A5 : Kept [] w1 w5 := ((k2.next k3).next k4).next k5
  have g4 : ∀ g, (Value.slice a4 n c4).ownBlock = some g → w1.heap.size ≤ g := fun g hg => (f4 g hg).1
  have g5 : ∀ g, (Value.slice a5 n c5).ownBlock = some g → w1.heap.size ≤ g := fun g hg => (f5 g hg).1
  have A6 : Kept [] w1 w6 := A5.trans k6 (by intro j hj hj2; have := g4 j (by simpa [eq_comm] using hj); omega)
  have A7 : Kept [] w1 w7 := A6.trans k7 (by intro j hj hj2; have := (o6.lt j (by simpa [eq_comm] using hj)).1; omega)
  have A8 : Kept [] w1 w8 := A7.trans k8 (by intro j hj hj2; have := g5 j (by simpa [eq_comm] using hj); omega)
  exact ((A8.next k9).next k10).below (Nat.le_refl _) (by simp)

end Go.Proofs.Qxb6003130a
