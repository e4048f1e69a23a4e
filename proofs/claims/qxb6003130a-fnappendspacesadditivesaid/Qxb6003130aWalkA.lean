import Derived.Test.Qxb6003130aRows
import Derived.Test.Qxb6003130aKit
namespace Go.Proofs.Qxb6003130a
open Go.RowKit

theorem Try.info5 : (Try.prog.info? 5).map (fun i => (i.zero, i.size, i.bytes)) = some (some (.int .u8 0), 1, 1) := by kernel_rfl

set_option maxHeartbeats 400000 in
theorem clone_nil (w : World) : Calls Try.prog 6 #[.slice none 0 0] w fun e w' => e = .returned (.slice none 0 0) ∧ w' = w := by
  have q22 : ∀ (w : World) (a : Option Addr) (n c n' c' : Nat), (binOp .eql 22 (.slice a n c) (.slice none n' c')).run Try.prog w = .ok (.bool a.isNone) w := fun w a n c n' c' => Lib.run_eql_slice_nil w _ _ a n c n' c' Try.underlying22
  go_enter Try.func6, Try.ntmps6
  go_wp2
  go_ret
  exact ⟨rfl, rfl⟩

set_option maxHeartbeats 400000 in
theorem clone_some (x : Addr) (n : Nat) (xs : List Int) (c : Nat) (w : World) (B : Nat) (hl : xs.length = n) (hn : n ≤ 2000000) (hB : B ≤ w.heap.size)
    (hc : ∀ i, i < n → w.cell? (x.add i) = some (.int .u8 (xs.getD i 0))) :
    Calls Try.prog 6 #[.slice (some x) n c] w fun e w' => e = .returned (.slice (some ⟨w.heap.size, 0, none⟩) n n) ∧ Own 5 .u8 w' B (.slice (some ⟨w.heap.size, 0, none⟩) n n) n xs ∧ Kept [] w w' := by
  obtain ⟨i0, hi, hz0, hz1, hz2⟩ := info_parts Try.info5
  have q22 : ∀ (w : World) (a : Option Addr) (n c n' c' : Nat), (binOp .eql 22 (.slice a n c) (.slice none n' c')).run Try.prog w = .ok (.bool a.isNone) w := fun w a n c n' c' => Lib.run_eql_slice_nil w _ _ a n c n' c' Try.underlying22
  obtain ⟨b, off, spot⟩ := x
  have hs : 0 < n → spot = none := fun h => by simpa [Addr.add] using World.cell?_spot (hc 0 h)
  have hlt : 0 < n → b < w.heap.size := fun h => by simpa [Addr.add] using World.block_lt_of_cell? _ _ (hc 0 h)
  have HL : Hid (xs.length = n) := hl
  clear hl
  go_enter Try.func6, Try.ntmps6
  go_wp2_with (first | (at_make; refine wpList_make_full _ rfl _ _ 22 rfl B 5 i0 (.int .u8 0) 1 Try.underlying22 hi hz0 hz1 _ _ _ _ n rfl rfl rfl rfl ?b1 ?b2 ?b3 ?_))
  case b1 => rw [hz2]; omega
  case b2 => unfold maxLen; omega
  case b3 => exact hB
  intro w1 hown1 hgrow1
  have hA : Own 5 .u8 w1 B (.slice (some ⟨w.heap.size, 0, none⟩) n n) n (part xs 0) := by
    rw [part_zero, HL.out]; exact own_made hown1
  have hK := Kept.ofNew hgrow1
  clear hown1 hgrow1
  go_wp2
  go_loopw [4] (fun i wr => ∃ k : Nat, k ≤ n ∧ i = .int .i64 k ∧ Own 5 .u8 wr B (.slice (some ⟨w.heap.size, 0, none⟩) n n) n (part xs k) ∧ Kept [] w wr) (fun i _ => n - (intOf i).toNat)
  case atStart => exact ⟨0, Nat.zero_le _, rfl, hA, hK⟩
  case round =>
    obtain ⟨k, hk, rfl, hown, hkept⟩ := hrel
    clear hA hK
    by_cases hlt2 : k < n
    · obtain rfl := hs (by omega)
      have hb := hlt (by omega)
      have hcx : wr.cell? ⟨b, off + k, none⟩ = some (.int .u8 (xs.getD k 0)) := (hkept.cell (a := ⟨b, off + k, none⟩) hb (by simp)).trans (by have := hc k hlt2; rwa [WideShapes.add_plain] at this)
      have hfr : wr.frozen? ⟨w.heap.size, k, none⟩ = false := hown.fr k
      have hcc : wr.cell? ⟨w.heap.size, k, none⟩ = some (.int .u8 ((part xs k).getD k 0)) := hown.cell hlt2
      have R := hown.store k (xs.getD k 0)
      rw [part_step _ _ (by rw [HL.out]; exact hlt2)] at R
      have R2 : Kept [] w (wr.setCell ⟨w.heap.size, k, none⟩ (.int .u8 (xs.getD k 0))) := hkept.trans R.2 (by intro j hj hj2; simp at hj; omega)
      have HR : Hid (_ ∧ _) := ⟨R.1, R2⟩
      clear R R2
      go_wp2
      go_roundw
      case rel => exact ⟨k + 1, by omega, by go_num, HR.out.1, HR.out.2⟩
      case measure => simp [intOf]; omega
    · obtain rfl : k = n := by omega
      go_wp2
      go_ret
      rw [show k = xs.length from HL.out.symm, part_full] at hown
      rw [HL.out] at hown
      exact ⟨rfl, hown, hkept⟩

end Go.Proofs.Qxb6003130a
