import Derived.Test.Qxb6601940aRows
import Derived.Test.Qxb6601940aKit
import Derived.Test.Qxb6601940aPlain
import Derived.BigQuiet
namespace Go.Proofs.Qxb6601940a
open Go.RowKit

theorem Try.info3 : (Try.prog.info? 3).map (fun i => (i.zero, i.size, i.bytes)) = some (some (.int .i64 0), 1, 8) := by kernel_rfl
theorem Try.info21 : (Try.prog.info? 21).map (fun i => (i.zero, i.size, i.bytes)) = some (some (.int .i32 0), 1, 4) := by kernel_rfl

set_option maxHeartbeats 400000 in
theorem clone_nil (w : World) : Calls Try.prog 24 #[.slice none 0 0] w fun e w' => e = .returned (.slice none 0 0) ∧ w' = w := by
  have q35 : ∀ (w : World) (a : Option Addr) (n c n' c' : Nat), (binOp .eql 35 (.slice a n c) (.slice none n' c')).run Try.prog w = .ok (.bool a.isNone) w := fun w a n c n' c' => Lib.run_eql_slice_nil w _ _ a n c n' c' Try.underlying35
  go_enter Try.func24, Try.ntmps24
  go_wp2
  go_ret
  exact ⟨rfl, rfl⟩

set_option maxHeartbeats 400000 in
theorem clone_some (x : Addr) (n : Nat) (xs : List Int) (c : Nat) (w : World) (B : Nat) (hl : xs.length = n) (hn : n ≤ 2000000) (hB : B ≤ w.heap.size)
    (hc : ∀ i, i < n → w.cell? (x.add i) = some (.int .i64 (xs.getD i 0))) :
    Calls Try.prog 24 #[.slice (some x) n c] w fun e w' => e = .returned (.slice (some ⟨w.heap.size, 0, none⟩) n n) ∧ Own 3 .i64 w' B (.slice (some ⟨w.heap.size, 0, none⟩) n n) n xs ∧ Kept [] w w' := by
  obtain ⟨i0, hi, hz0, hz1, hz2⟩ := info_parts Try.info3
  have q35 : ∀ (w : World) (a : Option Addr) (n c n' c' : Nat), (binOp .eql 35 (.slice a n c) (.slice none n' c')).run Try.prog w = .ok (.bool a.isNone) w := fun w a n c n' c' => Lib.run_eql_slice_nil w _ _ a n c n' c' Try.underlying35
  obtain ⟨b, off, spot⟩ := x
  have hs : 0 < n → spot = none := fun h => by simpa [Addr.add] using World.cell?_spot (hc 0 h)
  have hlt : 0 < n → b < w.heap.size := fun h => by simpa [Addr.add] using World.block_lt_of_cell? _ _ (hc 0 h)
  have HL : Hid (xs.length = n) := hl
  clear hl
  go_enter Try.func24, Try.ntmps24
  go_wp2_with (first | (at_make; refine wpList_make_full _ rfl _ _ 35 rfl B 3 i0 (.int .i64 0) 1 Try.underlying35 hi hz0 hz1 _ _ _ _ n rfl rfl rfl rfl ?b1 ?b2 ?b3 ?_))
  case b1 => rw [hz2]; omega
  case b2 => unfold maxLen; omega
  case b3 => exact hB
  intro w1 hown1 hgrow1
  have hA : Own 3 .i64 w1 B (.slice (some ⟨w.heap.size, 0, none⟩) n n) n (part xs 0) := by
    rw [part_zero, HL.out]; exact own_made hown1
  have hK := Kept.ofNew hgrow1
  clear hown1 hgrow1
  go_wp2
  go_loopw [4] (fun i wr => ∃ k : Nat, k ≤ n ∧ i = .int .i64 k ∧ Own 3 .i64 wr B (.slice (some ⟨w.heap.size, 0, none⟩) n n) n (part xs k) ∧ Kept [] w wr) (fun i _ => n - (intOf i).toNat)
  case atStart => exact ⟨0, Nat.zero_le _, rfl, hA, hK⟩
  case round =>
    obtain ⟨k, hk, rfl, hown, hkept⟩ := hrel
    clear hA hK
    by_cases hlt2 : k < n
    · obtain rfl := hs (by omega)
      have hb := hlt (by omega)
      have hcx : wr.cell? ⟨b, off + k, none⟩ = some (.int .i64 (xs.getD k 0)) := (hkept.cell (a := ⟨b, off + k, none⟩) hb (by simp)).trans (by have := hc k hlt2; rwa [WideShapes.add_plain] at this)
      have hfr : wr.frozen? ⟨w.heap.size, k, none⟩ = false := hown.fr k
      have hcc : wr.cell? ⟨w.heap.size, k, none⟩ = some (.int .i64 ((part xs k).getD k 0)) := hown.cell hlt2
      have R := hown.store k (xs.getD k 0)
      rw [part_step _ _ (by rw [HL.out]; exact hlt2)] at R
      have R2 : Kept [] w (wr.setCell ⟨w.heap.size, k, none⟩ (.int .i64 (xs.getD k 0))) := hkept.trans R.2 (by intro j hj hj2; simp at hj; omega)
      have HR : Hid (_ ∧ _) := ⟨R.1, R2⟩
      clear R R2
      go_wp2
      go_roundw
      case rel => exact ⟨k + 1, by omega, by go_num, HR.out.1, HR.out.2⟩
      case measure => simp [intOf]; omega
    · obtain rfl : k = n := by omega
      go_wp2
      go_ret
      rw [show k = xs.length from HL.out.symm, part_full] at hown
      rw [HL.out] at hown
      exact ⟨rfl, hown, hkept⟩

theorem clone_any (a : Option Addr) (n c : Nat) (xs : List Int) (w : World) (B : Nat) (hl : xs.length = n) (hn : n ≤ 2000000) (hB : B ≤ w.heap.size) (hr : Rd .i64 w a xs) (h0 : a = none → c = 0) :
    Calls Try.prog 24 #[.slice a n c] w fun e w' => ∃ a' c', e = .returned (.slice a' n c') ∧ Own 3 .i64 w' B (.slice a' n c') n xs ∧ Kept [] w w' ∧ (∀ g, (Value.slice a' n c').ownBlock = some g → w.heap.size ≤ g) ∧ (a' = none ↔ a = none) := by
  cases a with
  | none =>
    obtain rfl := h0 rfl
    obtain rfl := hr.1 rfl
    obtain rfl : n = 0 := by simpa using hl.symm
    refine (clone_nil w).mono ?_
    rintro e w' ⟨rfl, rfl⟩
    exact ⟨none, 0, rfl, Own.nil _ _, Kept.refl _ _, by simp [Value.ownBlock], Iff.rfl⟩
  | some x =>
    refine (clone_some x n xs c w B hl hn hB (fun i hi => hr.2 x rfl i (by omega))).mono ?_
    rintro e w' ⟨rfl, h1, h2⟩
    refine ⟨_, _, rfl, h1, h2, ?_, by simp⟩
    intro g hg
    simp [Value.ownBlock] at hg
    omega

set_option maxHeartbeats 400000 in
theorem clone32_nil (w : World) : Calls Try.prog 23 #[.slice none 0 0] w fun e w' => e = .returned (.slice none 0 0) ∧ w' = w := by
  have q34 : ∀ (w : World) (a : Option Addr) (n c n' c' : Nat), (binOp .eql 34 (.slice a n c) (.slice none n' c')).run Try.prog w = .ok (.bool a.isNone) w := fun w a n c n' c' => Lib.run_eql_slice_nil w _ _ a n c n' c' Try.underlying34
  go_enter Try.func23, Try.ntmps23
  go_wp2
  go_ret
  exact ⟨rfl, rfl⟩

set_option maxHeartbeats 400000 in
theorem clone32_some (x : Addr) (n : Nat) (xs : List Int) (c : Nat) (w : World) (B : Nat) (hl : xs.length = n) (hn : n ≤ 2000000) (hB : B ≤ w.heap.size)
    (hc : ∀ i, i < n → w.cell? (x.add i) = some (.int .i32 (xs.getD i 0))) :
    Calls Try.prog 23 #[.slice (some x) n c] w fun e w' => e = .returned (.slice (some ⟨w.heap.size, 0, none⟩) n n) ∧ Own 21 .i32 w' B (.slice (some ⟨w.heap.size, 0, none⟩) n n) n xs ∧ Kept [] w w' := by
  obtain ⟨i0, hi, hz0, hz1, hz2⟩ := info_parts Try.info21
  have q34 : ∀ (w : World) (a : Option Addr) (n c n' c' : Nat), (binOp .eql 34 (.slice a n c) (.slice none n' c')).run Try.prog w = .ok (.bool a.isNone) w := fun w a n c n' c' => Lib.run_eql_slice_nil w _ _ a n c n' c' Try.underlying34
  obtain ⟨b, off, spot⟩ := x
  have hs : 0 < n → spot = none := fun h => by simpa [Addr.add] using World.cell?_spot (hc 0 h)
  have hlt : 0 < n → b < w.heap.size := fun h => by simpa [Addr.add] using World.block_lt_of_cell? _ _ (hc 0 h)
  have HL : Hid (xs.length = n) := hl
  clear hl
  go_enter Try.func23, Try.ntmps23
  go_wp2_with (first | (at_make; refine wpList_make_full _ rfl _ _ 34 rfl B 21 i0 (.int .i32 0) 1 Try.underlying34 hi hz0 hz1 _ _ _ _ n rfl rfl rfl rfl ?b1 ?b2 ?b3 ?_))
  case b1 => rw [hz2]; omega
  case b2 => unfold maxLen; omega
  case b3 => exact hB
  intro w1 hown1 hgrow1
  have hA : Own 21 .i32 w1 B (.slice (some ⟨w.heap.size, 0, none⟩) n n) n (part xs 0) := by
    rw [part_zero, HL.out]; exact own_made hown1
  have hK := Kept.ofNew hgrow1
  clear hown1 hgrow1
  go_wp2
  go_loopw [4] (fun i wr => ∃ k : Nat, k ≤ n ∧ i = .int .i64 k ∧ Own 21 .i32 wr B (.slice (some ⟨w.heap.size, 0, none⟩) n n) n (part xs k) ∧ Kept [] w wr) (fun i _ => n - (intOf i).toNat)
  case atStart => exact ⟨0, Nat.zero_le _, rfl, hA, hK⟩
  case round =>
    obtain ⟨k, hk, rfl, hown, hkept⟩ := hrel
    clear hA hK
    by_cases hlt2 : k < n
    · obtain rfl := hs (by omega)
      have hb := hlt (by omega)
      have hcx : wr.cell? ⟨b, off + k, none⟩ = some (.int .i32 (xs.getD k 0)) := (hkept.cell (a := ⟨b, off + k, none⟩) hb (by simp)).trans (by have := hc k hlt2; rwa [WideShapes.add_plain] at this)
      have hfr : wr.frozen? ⟨w.heap.size, k, none⟩ = false := hown.fr k
      have hcc : wr.cell? ⟨w.heap.size, k, none⟩ = some (.int .i32 ((part xs k).getD k 0)) := hown.cell hlt2
      have R := hown.store k (xs.getD k 0)
      rw [part_step _ _ (by rw [HL.out]; exact hlt2)] at R
      have R2 : Kept [] w (wr.setCell ⟨w.heap.size, k, none⟩ (.int .i32 (xs.getD k 0))) := hkept.trans R.2 (by intro j hj hj2; simp at hj; omega)
      have HR : Hid (_ ∧ _) := ⟨R.1, R2⟩
      clear R R2
      go_wp2
      go_roundw
      case rel => exact ⟨k + 1, by omega, by go_num, HR.out.1, HR.out.2⟩
      case measure => simp [intOf]; omega
    · obtain rfl : k = n := by omega
      go_wp2
      go_ret
      rw [show k = xs.length from HL.out.symm, part_full] at hown
      rw [HL.out] at hown
      exact ⟨rfl, hown, hkept⟩

theorem clone32_any (a : Option Addr) (n c : Nat) (xs : List Int) (w : World) (B : Nat) (hl : xs.length = n) (hn : n ≤ 2000000) (hB : B ≤ w.heap.size) (hr : Rd .i32 w a xs) (h0 : a = none → c = 0) :
    Calls Try.prog 23 #[.slice a n c] w fun e w' => ∃ a' c', e = .returned (.slice a' n c') ∧ Own 21 .i32 w' B (.slice a' n c') n xs ∧ Kept [] w w' ∧ (∀ g, (Value.slice a' n c').ownBlock = some g → w.heap.size ≤ g) ∧ (a' = none ↔ a = none) := by
  cases a with
  | none =>
    obtain rfl := h0 rfl
    obtain rfl := hr.1 rfl
    obtain rfl : n = 0 := by simpa using hl.symm
    refine (clone32_nil w).mono ?_
    rintro e w' ⟨rfl, rfl⟩
    exact ⟨none, 0, rfl, Own.nil _ _, Kept.refl _ _, by simp [Value.ownBlock], Iff.rfl⟩
  | some x =>
    refine (clone32_some x n xs c w B hl hn hB (fun i hi => hr.2 x rfl i (by omega))).mono ?_
    rintro e w' ⟨rfl, h1, h2⟩
    refine ⟨_, _, rfl, h1, h2, ?_, by simp⟩
    intro g hg
    simp [Value.ownBlock] at hg
    omega

/-! ### allZero, keysIn: they answer what they are asked -/
def allZ (xs : List Int) : Bool := xs.all fun x => x == 0
def keysB (v : Int) (xs : List Int) : Bool := xs.all fun x => decide (0 ≤ x) && decide (x < v)
theorem all_take_step {p : Int → Bool} {xs : List Int} {k : Nat} (hk : k < xs.length) (h : (xs.take k).all p = true) (hp : p (xs.getD k 0) = true) : (xs.take (k + 1)).all p = true := by
  rw [List.take_succ_eq_append_getElem hk, List.all_append, h]
  simpa [List.getD, hk] using hp
theorem all_false {p : Int → Bool} {xs : List Int} {k : Nat} (hk : k < xs.length) (hp : p (xs.getD k 0) = false) : xs.all p = false := by
  rw [List.all_eq_false]
  exact ⟨xs[k], List.getElem_mem hk, by simpa [List.getD, hk] using hp⟩

set_option maxHeartbeats 400000 in
theorem allZero_any (a : Option Addr) (n c : Nat) (xs : List Int) (w : World) (hl : xs.length = n) (hn : n ≤ 2000000) (hr : Rd .i64 w a xs) :
    Calls Try.prog 31 #[.slice a n c] w fun e w' => e = .returned (.bool (allZ xs)) ∧ w' = w := by
  have HL : Hid (xs.length = n) := hl
  clear hl
  go_enter Try.func31, Try.ntmps31
  go_wp2
  go_loop [3] (fun i => ∃ k : Nat, k ≤ n ∧ i = .int .i64 k ∧ (xs.take k).all (fun x => x == 0) = true) (fun i => n - (intOf i).toNat)
  case atStart => exact ⟨0, Nat.zero_le _, rfl, by simp⟩
  case round =>
    obtain ⟨k, hk, rfl, hall⟩ := hrel
    have HA : Hid ((xs.take k).all (fun x => x == 0) = true) := hall
    clear hall
    by_cases hlt : k < n
    · have hk2 : k < xs.length := by rw [HL.out]; exact hlt
      obtain ⟨b, off, rfl, hcell⟩ := hr.at (by omega)
      have hc := hcell k hk2
      clear hr hcell
      obtain ⟨z, hz⟩ : ∃ z, z = xs.getD k 0 := ⟨_, rfl⟩
      rw [← hz] at hc
      have HZ : Hid (z = xs.getD k 0) := hz
      clear hz hk2
      by_cases h0 : z = 0
      · subst h0
        go_wp2
        go_round
        case rel => exact ⟨k + 1, by omega, by go_num, all_take_step (by rw [HL.out]; exact hlt) HA.out (by rw [← HZ.out]; rfl)⟩
        case measure => simp [intOf]; omega
      · have h1 : (z != 0) = true := by simpa using h0
        go_wp2
        go_ret
        refine ⟨?_, rfl⟩
        have : allZ xs = false := all_false (by rw [HL.out]; exact hlt) (by rw [← HZ.out]; simpa using h0)
        rw [this]; rfl
    · obtain rfl : k = n := by omega
      go_wp2
      go_ret
      refine ⟨?_, rfl⟩
      have : allZ xs = true := by have := HA.out; rwa [← HL.out, List.take_length] at this
      rw [this]; rfl

set_option maxHeartbeats 400000 in
theorem keysIn_any (a : Option Addr) (n c : Nat) (xs : List Int) (v : Int) (w : World) (hl : xs.length = n) (hn : n ≤ 2000000) (hr : Rd .i64 w a xs) :
    Calls Try.prog 32 #[.slice a n c, .int .i64 v] w fun e w' => e = .returned (.bool (keysB v xs)) ∧ w' = w := by
  have HL : Hid (xs.length = n) := hl
  clear hl
  go_enter Try.func32, Try.ntmps32
  go_wp2
  go_loop [5] (fun i => ∃ k : Nat, k ≤ n ∧ i = .int .i64 k ∧ keysB v (xs.take k) = true) (fun i => n - (intOf i).toNat)
  case atStart => exact ⟨0, Nat.zero_le _, rfl, by simp [keysB]⟩
  case round =>
    obtain ⟨k, hk, rfl, hall⟩ := hrel
    have HA : Hid (keysB v (xs.take k) = true) := hall
    clear hall
    by_cases hlt : k < n
    · have hk2 : k < xs.length := by rw [HL.out]; exact hlt
      obtain ⟨b, off, rfl, hcell⟩ := hr.at (by omega)
      have hc := hcell k hk2
      clear hr hcell
      obtain ⟨z, hz⟩ : ∃ z, z = xs.getD k 0 := ⟨_, rfl⟩
      rw [← hz] at hc
      have HZ : Hid (z = xs.getD k 0) := hz
      clear hz hk2
      by_cases h0 : z < 0
      · go_wp2
        go_ret
        refine ⟨?_, rfl⟩
        have : keysB v xs = false := all_false (by rw [HL.out]; exact hlt) (by rw [← HZ.out]; simp; omega)
        rw [this]; rfl
      · by_cases h1 : v ≤ z
        · go_wp2
          go_ret
          refine ⟨?_, rfl⟩
          have : keysB v xs = false := all_false (by rw [HL.out]; exact hlt) (by rw [← HZ.out]; simp; omega)
          rw [this]; rfl
        · go_wp2
          go_round
          case rel => exact ⟨k + 1, by omega, by go_num, all_take_step (by rw [HL.out]; exact hlt) HA.out (by rw [← HZ.out]; simp; omega)⟩
          case measure => simp [intOf]; omega
    · obtain rfl : k = n := by omega
      go_wp2
      go_ret
      refine ⟨?_, rfl⟩
      have : keysB v xs = true := by have := HA.out; rwa [← HL.out, List.take_length] at this
      rw [this]; rfl

set_option maxHeartbeats 400000 in
theorem same_any (a a' : Option Addr) (n c c' : Nat) (xs : List Int) (w : World) (hl : xs.length = n) (hn : n ≤ 2000000) (hr : Rd .i64 w a xs) (hr' : Rd .i64 w a' xs) :
    Calls Try.prog 29 #[.slice a n c, .slice a' n c'] w fun e w' => e = .returned (.bool true) ∧ Kept [] w w' := by
  have HL : Hid (xs.length = n) := hl
  clear hl
  go_enter Try.func29, Try.ntmps29
  go_wp2
  go_loopw [5] (fun i wr => ∃ k : Nat, k ≤ n ∧ i = .int .i64 k ∧ Kept [] w wr) (fun i _ => n - (intOf i).toNat)
  case atStart => exact ⟨0, Nat.zero_le _, rfl, Kept.refl _ _⟩
  case round =>
    obtain ⟨k, hk, rfl, hkept⟩ := hrel
    by_cases hlt : k < n
    · have hk2 : k < xs.length := by rw [HL.out]; exact hlt
      obtain ⟨b, off, rfl, hcell⟩ := (hr.kept hkept).at (by omega)
      obtain ⟨b', off', rfl, hcell'⟩ := (hr'.kept hkept).at (by omega)
      have c1 := hcell k hk2
      have c2 := hcell' k hk2
      have b1 : (k : Int) < (n : Int) := by omega
      have b3 : (0 : Int) ≤ (k : Int) := by omega
      clear hr hr' hcell hcell' hk2
      go_wp2
      go_quiet (fail)
      go_wp2
      go_roundw
      case rel => exact ⟨k + 1, by omega, by go_num, hkept.next (Kept.drewN _ _)⟩
      case measure => simp [intOf]; omega
    · obtain rfl : k = n := by omega
      go_wp2
      go_ret
      exact ⟨rfl, hkept⟩

end Go.Proofs.Qxb6601940a
