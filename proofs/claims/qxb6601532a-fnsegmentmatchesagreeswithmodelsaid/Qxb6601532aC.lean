import Derived.Test.Qxb6601532aB
namespace Go.Proofs.Qxb6601532a
open Go.RowKit
set_option linter.unusedVariables false

theorem OwnS.kept0 {w w' : World} {B : Nat} {v : Value} {n : Nat} {S : Nat → Bool} (h : OwnS w B v n S) (hk : Kept [] w w') : OwnS w' B v n S := ownsKept h hk (by simp)
theorem OwnS.cell {w : World} {B g n c : Nat} {S : Nat → Bool} (h : OwnS w B (.slice (some ⟨g, 0, none⟩) n c) n S) {k : Nat} (hk : k < n * 256) : w.cell? ⟨g, k, none⟩ = some (.bool (S k)) := by
  rw [World.ownsRow.cellAt h k hk, flat_at _ _ _ hk]
theorem OwnS.fr {w : World} {B g n c : Nat} {S : Nat → Bool} (h : OwnS w B (.slice (some ⟨g, 0, none⟩) n c) n S) (k : Nat) : w.frozen? ⟨g, k, none⟩ = false := World.ownsRow.frozenAt h k
theorem OwnS.pos {w : World} {B : Nat} {v : Value} {n : Nat} {S : Nat → Bool} (h : OwnS w B v n S) (hn : 0 < n) : ∃ g cap, v = .slice (some ⟨g, 0, none⟩) n cap ∧ B ≤ g ∧ g < w.heap.size := by
  rcases h.2 with ⟨_, h0⟩ | ⟨g, cap, cur, rfl, hb, hgg, _⟩
  · omega
  · exact ⟨g, cap, rfl, hb, (Array.getElem?_eq_some_iff.1 hgg).1⟩
theorem OwnS.range {w : World} {B g n c : Nat} {S : Nat → Bool} (h : OwnS w B (.slice (some ⟨g, 0, none⟩) n c) n S) {i : Nat} (hi : i < n) : w.rangeAt g (i * 256) (oneSet S i) := by
  intro j v hv
  have hj : j < 256 := by have := (List.getElem?_eq_some_iff.1 hv).1; rwa [oneSet_length] at this
  rw [oneSet_at _ _ _ hj] at hv
  rw [h.cell (show i * 256 + j < n * 256 by omega)]
  exact hv
theorem oneSet_size31 (S : Nat → Bool) (i : Nat) : (Try.prog.info? 31).map (·.size) = some (oneSet S i).length := by rw [oneSet_length]; exact Try.size31
theorem oneSet_size31' (S : Nat → Bool) (i : Nat) : (Try.prog.info? 31).map (·.size) = some (oneSet S i).toArray.size := by rw [List.size_toArray, oneSet_length]; exact Try.size31

set_option maxHeartbeats 400000 in
theorem cloneS_nil (w : World) : Calls Try.prog 14 #[.slice none 0 0] w fun e w' => e = .returned (.slice none 0 0) ∧ w' = w := by
  have q23 : ∀ (w : World) (a : Option Addr) (n c n' c' : Nat), (binOp .eql 23 (.slice a n c) (.slice none n' c')).run Try.prog w = .ok (.bool a.isNone) w := fun w a n c n' c' => Lib.run_eql_slice_nil w _ _ a n c n' c' Try.underlying23
  go_enter Try.func14, Try.ntmps14
  go_wp2
  go_ret
  exact ⟨rfl, rfl⟩

set_option maxHeartbeats 400000 in
theorem cloneS_some (x : Addr) (n : Nat) (S : Nat → Bool) (c : Nat) (w : World) (B : Nat) (hn : n ≤ 1048576) (hB : B ≤ w.heap.size)
    (hc : ∀ k, k < n * 256 → w.cell? (x.add k) = some (.bool (S k))) :
    Calls Try.prog 14 #[.slice (some x) n c] w fun e w' => e = .returned (.slice (some ⟨w.heap.size, 0, none⟩) n n) ∧ OwnS w' B (.slice (some ⟨w.heap.size, 0, none⟩) n n) n S ∧ Kept [] w w' := by
  obtain ⟨i0, hi, hz0, hz1, hz2⟩ := info_parts Try.info31
  have q23 : ∀ (w : World) (a : Option Addr) (n c n' c' : Nat), (binOp .eql 23 (.slice a n c) (.slice none n' c')).run Try.prog w = .ok (.bool a.isNone) w := fun w a n c n' c' => Lib.run_eql_slice_nil w _ _ a n c n' c' Try.underlying23
  obtain ⟨b, off, spot⟩ := x
  have hs : 0 < n → spot = none := fun h => by simpa [Addr.add] using World.cell?_spot (hc 0 (by omega))
  have hlt : 0 < n → b < w.heap.size := fun h => by simpa [Addr.add] using World.block_lt_of_cell? _ _ (hc 0 (by omega))
  have HC : Hid (∀ k, k < n * 256 → w.cell? ((⟨b, off, spot⟩ : Addr).add k) = some (.bool (S k))) := hc
  clear hc
  go_enter Try.func14, Try.ntmps14
  go_wp2_with (first | (at_make; refine wpList_make_full _ rfl _ _ 23 rfl B 31 i0 (.agg (Array.replicate 256 (.bool false))) 256 Try.underlying23 hi hz0 hz1 _ _ _ _ n rfl rfl rfl rfl (by rw [hz2]; omega) (by unfold maxLen; omega) hB ?_; intro w1 hown1 hgrow1))
  have hA : OwnS w1 B (.slice (some ⟨w.heap.size, 0, none⟩) n n) n (partS S 0) := by
    have h := hown1
    rw [madeS] at h
    have e : flat n (partS (fun _ => false) 0) = flat n (partS S 0) := by
      unfold flat; exact List.map_congr_left fun k _ => by simp [partS]
    rw [e] at h
    exact h
  have hK := Kept.ofNew hgrow1
  clear hown1 hgrow1
  go_loopw [4] (fun i wr => ∃ k : Nat, k ≤ n ∧ i = .int .i64 k ∧ OwnS wr B (.slice (some ⟨w.heap.size, 0, none⟩) n n) n (partS S k) ∧ Kept [] w wr) (fun i _ => n - (intOf i).toNat)
  case atStart => exact ⟨0, Nat.zero_le _, rfl, hA, hK⟩
  case round =>
    clear hA hK
    obtain ⟨k, hk, rfl, hown, hkept⟩ := hrel
    by_cases hlt2 : k < n
    · obtain rfl := hs (by omega)
      have hb := hlt (by omega)
      have hrg : Hid (wr.rangeAt b (off + k * 256) (oneSet S k)) := by
        intro j v hv
        have hj : j < 256 := by have := (List.getElem?_eq_some_iff.1 hv).1; rwa [oneSet_length] at this
        rw [oneSet_at _ _ _ hj] at hv
        rw [hkept.cell (a := ⟨b, off + k * 256 + j, none⟩) hb (by simp)]
        have := HC.out (k * 256 + j) (by omega)
        rw [WideShapes.add_plain, ← Nat.add_assoc] at this
        rw [this]; exact hv
      have hth : Hid (wr.there w.heap.size (k * 256) (oneSet S k).toArray.size) := by
        intro j hj
        rw [List.size_toArray, oneSet_length] at hj
        have h1 := hown.cell (k := k * 256 + j) (by omega)
        exact ⟨by rw [h1]; rfl, hown.fr _⟩
      have R := ownsMany (oneSet S k) _ (k * 256) hown
      rw [partS_step n S k hlt2] at R
      have R2 : Kept [] w (wr.setCells w.heap.size (k * 256) (oneSet S k)) := hkept.trans R.2 (by intro j hj hj2; simp at hj; omega)
      have HR : Hid (OwnS (wr.setCells w.heap.size (k * 256) (oneSet S k)) B (.slice (some ⟨w.heap.size, 0, none⟩) n n) n (partS S (k + 1)) ∧ Kept [] w (wr.setCells w.heap.size (k * 256) (oneSet S k))) := ⟨R.1, R2⟩
      clear R R2 hown
      have HS : Hid ((Try.prog.info? 31).map (·.size) = some (oneSet S k).length) := oneSet_size31 S k
      have HS2 : Hid ((Try.prog.info? 31).map (·.size) = some (oneSet S k).toArray.size) := oneSet_size31' S k
      have H1 : Hid ((oneSet S k).toArray.all (·.oneCell') = true) := all_oneCell_toArray (oneSet_one S k)
      generalize oneSet S k = X at *
      go_wp2_with (first
        | (refine wpList_load_mid (by rfl) 31 (.tmp 20) (by rfl) b (off + k * 256) (by rfl) X (.array 256 4) hrg.out Try.underlying31 rfl HS.out ?_)
        | (refine wpList_store_mid (by rfl) 31 (.tmp 22) (.tmp 21) (by rfl) w.heap.size (k * 256) X.toArray (by rfl) (by rfl) hth.out HS2.out H1.out ?_))
      go_roundw
      case rel => exact ⟨k + 1, by omega, by go_num, HR.out.1, HR.out.2⟩
      case measure => simp [intOf]; omega
    · obtain rfl : k = n := by omega
      go_wp2
      go_ret
      have h := hown
      unfold OwnS at h
      rw [partS_full] at h
      exact ⟨rfl, h, hkept⟩

end Go.Proofs.Qxb6601532a
