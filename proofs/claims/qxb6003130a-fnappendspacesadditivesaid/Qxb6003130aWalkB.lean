import Derived.Test.Qxb6003130aWalkA
import Derived.Deep.AppendLies
import Derived.BigQuiet
namespace Go.Proofs.Qxb6003130a
open Go.RowKit

set_option maxHeartbeats 400000 in
theorem spaces_any (a : Option Addr) (n c : Nat) (xs : List Int) (m : Nat) (w : World) (B : Nat) (hB : B ≤ w.heap.size) (hm : n + m ≤ 4000000) (hown : Own 5 .u8 w B (.slice a n c) n xs) :
    Calls Try.prog 10 #[.slice a n c, .int .i64 m] w fun e w' => ∃ a' c', e = .returned (.slice a' (n + m) c') ∧ Own 5 .u8 w' B (.slice a' (n + m) c') (n + m) (xs ++ List.replicate m 32) ∧ Kept [(Value.slice a n c).ownBlock] w w' ∧ (∀ g, (Value.slice a' (n + m) c').ownBlock = some g → g < w.heap.size → (Value.slice a n c).ownBlock = some g) := by
  obtain ⟨i0, hi, hz0, hz1, hz2⟩ := info_parts Try.info5
  go_enter Try.func10, Try.ntmps10
  go_wp2
  go_loopw [0, 6] (fun v i wr => ∃ (k : Nat) (a' : Option Addr) (c' : Nat), k ≤ m ∧ i = .int .i64 k ∧ v = .slice a' (n + k) c' ∧ Own 5 .u8 wr B (.slice a' (n + k) c') (n + k) (xs ++ List.replicate k 32) ∧ Kept [(Value.slice a n c).ownBlock] w wr ∧ (∀ g, (Value.slice a' (n + k) c').ownBlock = some g → g < w.heap.size → (Value.slice a n c).ownBlock = some g)) (fun _ i _ => m - (intOf i).toNat)
  case atStart => exact ⟨0, a, c, Nat.zero_le _, rfl, rfl, by simpa using hown, Kept.refl _ _, fun g hg _ => hg⟩
  case round =>
    obtain ⟨k, a', c', hk, rfl, rfl, hown', hkept, hblk⟩ := hrel
    by_cases hlt2 : k < m
    · have hsz := hkept.size
      go_wp2_with (first | (at_builtin; refine wpList_append_lies _ rfl _ _ 22 rfl B 5 i0 (.int .u8 0) 1 1 Try.underlying22 hi hz0 hz1 hz2 rfl (by decide) (.slice a' (n + k) c') (n + k) ((xs ++ List.replicate k 32).map (Value.int .u8)) rfl (World.ownsRow.alloc hown' _) ⟨wr.heap.size, 0, none⟩ 1 1 [.int .u8 32] rfl rfl (cell_one_new _ _ _) (by simp [Value.oneCell']) (by decide) (by unfold maxLen; omega) (by omega) (by simp; omega) (wr.heap.size + 1) (by simp) ?_; intro g cap w1 hown1 hgrow hat hlt1))
      have R : Own 5 .u8 w1 B (.slice (some ⟨g, 0, none⟩) (n + (k + 1)) cap) (n + (k + 1)) (xs ++ List.replicate (k + 1) 32) ∧ Kept [(Value.slice a n c).ownBlock] w w1 := by
        constructor
        · have e1 : (xs ++ List.replicate (k + 1) 32).map (Value.int .u8) = (xs ++ List.replicate k 32).map (Value.int .u8) ++ [.int .u8 32] := by rw [List.replicate_succ']; simp
          unfold Own
          rw [e1]
          exact hown1
        · refine (hkept.next (Kept.alloc _ _)).trans (Kept.ofGrown hgrow) ?_
          intro j hj hj2
          have : (Value.slice a' (n + k) c').ownBlock = some j := by simpa [eq_comm] using hj
          simp [hblk j this hj2]
      clear hown1 hgrow
      go_roundw
      case rel =>
        refine ⟨k + 1, some ⟨g, 0, none⟩, cap, by omega, by go_num, rfl, R.1, R.2, ?_⟩
        intro g' hg' hlt3
        have : g = g' := by simpa [Value.ownBlock] using hg'
        subst this
        rcases hat with h | h
        · exact hblk _ h hlt3
        · omega
      case measure => simp [intOf]; omega
    · obtain rfl : k = m := by omega
      go_wp2
      go_ret
      exact ⟨_, _, rfl, hown', hkept, hblk⟩

set_option maxHeartbeats 400000 in
theorem zzspaces_any (a : Option Addr) (n c : Nat) (xs : List Int) (m : Nat) (w : World) (B : Nat) (hB : B ≤ w.heap.size) (hm : n + m ≤ 4000000) (hown : Own 5 .u8 w B (.slice a n c) n xs) :
    Calls Try.prog 7 #[.slice a n c, .int .i64 m] w fun e w' => ∃ a' c', e = .returned (.slice a' (n + m) c') ∧ Own 5 .u8 w' B (.slice a' (n + m) c') (n + m) (xs ++ List.replicate m 32) ∧ Kept [(Value.slice a n c).ownBlock] w w' ∧ (∀ g, (Value.slice a' (n + m) c').ownBlock = some g → g < w.heap.size → (Value.slice a n c).ownBlock = some g) := by
  go_enter Try.func7, Try.ntmps7
  go_wp2_with fail
  refine (spaces_any a n c xs m _ B hB hm hown).mono ?_
  rintro e w1 ⟨a', c', rfl, h1, h2, h3⟩
  go_wp2
  go_ret
  exact ⟨a', c', rfl, h1, h2, h3⟩

/-- The orig row, then spaces: the answer is yes. -/
theorem getD_left (xs : List Int) (k j : Nat) (h : j < xs.length) : (xs ++ List.replicate k 32).getD j 0 = xs.getD j 0 := by
  simp [List.getD, List.getElem?_append_left h]
theorem getD_right (xs : List Int) (k j : Nat) (h : xs.length ≤ j) (h2 : j < xs.length + k) : (xs ++ List.replicate k 32).getD j 0 = 32 := by
  simp [List.getD, List.getElem?_append_right h, show j - xs.length < k by omega]

set_option maxHeartbeats 400000 in
theorem same_any (a a' : Option Addr) (n c c' : Nat) (xs : List Int) (m : Nat) (w : World) (B B' : Nat) (hm : n + m ≤ 4000000) (hg : Own 5 .u8 w B (.slice a' (n + m) c') (n + m) (xs ++ List.replicate m 32)) (ho : Own 5 .u8 w B' (.slice a n c) n xs) :
    Calls Try.prog 8 #[.slice a' (n + m) c', .slice a n c, .int .i64 m] w fun e w' => e = .returned (.bool true) ∧ Kept [] w w' := by
  have hl := ho.len
  go_enter Try.func8, Try.ntmps8
  go_wp2
  go_loopw [7] (fun i wr => ∃ k : Nat, k ≤ n ∧ i = .int .i64 k ∧ Kept [] w wr) (fun i _ => n - (intOf i).toNat)
  case atStart => exact ⟨0, Nat.zero_le _, rfl, Kept.refl _ _⟩
  case round =>
    obtain ⟨k, hk, rfl, hkept⟩ := hrel
    have hg' := hg.kept0 hkept
    have ho' := ho.kept0 hkept
    by_cases hlt : k < n
    · obtain ⟨g, cg, hv, _⟩ := hg.pos (by omega)
      obtain ⟨g2, cg2, hv2, _⟩ := ho.pos (by omega)
      simp only [Value.slice.injEq] at hv hv2
      obtain ⟨rfl, _, rfl⟩ := hv
      obtain ⟨rfl, _, rfl⟩ := hv2
      have c1 := hg'.cell (j := k) (by omega)
      have c2 := ho'.cell (j := k) (by omega)
      rw [getD_left _ _ _ (by omega)] at c1
      have b1 : (k : Int) < (n : Int) := by omega
      have b2 : (k : Int) < ((n + m : Nat) : Int) := by omega
      have b3 : (0 : Int) ≤ (k : Int) := by omega
      clear hg hg' ho ho'
      go_wp2
      go_quiet (fail)
      go_wp2
      go_roundw
      case rel => exact ⟨k + 1, by omega, by go_num, hkept.next (Kept.drewN _ _)⟩
      case measure => simp [intOf]; omega
    · obtain rfl : k = n := by omega
      obtain ⟨wo, rfl⟩ : ∃ wo : World, wo = wr := ⟨_, rfl⟩
      go_wp2
      go_loopw [8] (fun i wr => ∃ j : Nat, k ≤ j ∧ j ≤ k + m ∧ i = .int .i64 j ∧ Kept [] w wr) (fun i _ => k + m - (intOf i).toNat)
      case atStart => exact ⟨k, Nat.le_refl _, by omega, rfl, hkept⟩
      case round =>
        obtain ⟨j, hj, hjm, rfl, hkept2⟩ := hrel
        have hg2 := hg.kept0 hkept2
        by_cases hlt2 : j < k + m
        · obtain ⟨g, cg, hv, _⟩ := hg.pos (by omega)
          simp only [Value.slice.injEq] at hv
          obtain ⟨rfl, _, rfl⟩ := hv
          have c1 := hg2.cell (j := j) (by omega)
          rw [getD_right _ _ _ (by omega) (by omega)] at c1
          clear hg hg' hg2 ho ho'
          go_wp2
          go_roundw
          case rel => exact ⟨j + 1, by omega, by omega, by go_num, hkept2⟩
          case measure => simp [intOf]; omega
        · obtain rfl : j = k + m := by omega
          go_wp2
          go_ret
          exact ⟨rfl, hkept2⟩

end Go.Proofs.Qxb6003130a
