import Derived.Test.Qxb6601532aG
namespace Go.Proofs.Qxb6601532a
open Go.RowKit
set_option linter.unusedVariables false

set_option maxHeartbeats 400000 in
theorem zzmatches_any (a0 a1 : Option Addr) (n c0 c1 : Nat) (bs : List Bool) (S : Nat → Bool) (s : ByteArray) (w : World) (B : Nat) (hn : n ≤ 4096) (hs : s.size ≤ 1048576) (hB : B ≤ w.heap.size)
    (h0 : OwnB w B (.slice a0 n c0) n bs) (h1 : OwnS w B (.slice a1 n c1) n S) (st : Nat → Bool) (HSTE : Hid (∀ i, st i = bs.getD i false)) :
    Calls Try.prog 15 #[.slice a0 n c0, .slice a1 n c1, .string s] w fun e w' => e = .returned (.bool (Pl.R (toks n st S) s.data.toList 0 0)) ∧ Kept [] w w' := by
  go_enter Try.func15, Try.ntmps15
  go_wp2_with fail
  refine (tokens_any a0 a1 n c0 c1 bs S _ B hn hB h0 h1).mono ?_
  rintro e w1 ⟨rfl, htok, hk1⟩
  have htok2 : Toks w1 w.heap.size n n st S := by
    rw [show st = fun i => bs.getD i false from funext HSTE.out]; exact htok
  clear htok
  go_wp2_with fail
  refine (matches_any w1.heap.size w.heap.size n st S s _ hn hs ?_ (htok2.kept (Kept.alloc _ _))).mono ?_
  · exact cell_of_row _ _ 1 #[.bool false, .slice (some ⟨w.heap.size, 0, none⟩) n n] 64 (0, 0) (heap_alloc_new w1 _)
  rintro e w2 ⟨rfl, hk2⟩
  go_wp2
  go_ret
  exact ⟨rfl, (hk1.next (Kept.alloc _ _)).next hk2⟩

set_option maxHeartbeats 400000 in
theorem top_bytes (a0 a1 : Option Addr) (n0 c0 n1 c1 : Nat) (s : ByteArray) (w : World) (h : 1048576 < sum256 (n0 + n1) n1 + s.size) :
    Calls Try.prog 3 #[.slice a0 n0 c0, .slice a1 n1 c1, .string s] w fun e w' => e = .returned (.bool true) ∧ Below w.heap.size w w' := by
  go_enter Try.func3, Try.ntmps3
  go_wp2_with fail
  refine (bytes_no a0 a1 n0 c0 n1 c1 s _ h).mono ?_
  rintro e w1 ⟨rfl, rfl⟩
  go_wp2_with fail
  go_ret
  exact ⟨rfl, Below.refl _ _⟩

set_option maxHeartbeats 400000 in
theorem top_len (a0 a1 : Option Addr) (n0 c0 n1 c1 : Nat) (s : ByteArray) (w : World) (h : sum256 (n0 + n1) n1 + s.size ≤ 1048576) (hd : 2048 < n0 ∨ (n0 ≤ 2048 ∧ 2048 < n1) ∨ (n0 ≤ 2048 ∧ n1 ≤ 2048 ∧ 262144 < s.size)) :
    Calls Try.prog 3 #[.slice a0 n0 c0, .slice a1 n1 c1, .string s] w fun e w' => e = .returned (.bool true) ∧ Below w.heap.size w w' := by
  rcases hd with q | ⟨q1, q2⟩ | ⟨q1, q2, q3⟩
  all_goals
    go_enter Try.func3, Try.ntmps3
    go_wp2_with fail
    refine (bytes_yes a0 a1 n0 c0 n1 c1 s _ h).mono ?_
    rintro e w1 ⟨rfl, rfl⟩
    go_wp2_with fail
    go_ret
    exact ⟨rfl, Below.refl _ _⟩

set_option maxHeartbeats 400000 in
theorem top_in (a0 a1 : Option Addr) (n0 c0 n1 c1 : Nat) (bs : List Bool) (S : Nat → Bool) (s : ByteArray) (w : World) (h : sum256 (n0 + n1) n1 + s.size ≤ 1048576) (q1 : n0 ≤ 2048) (q2 : n1 ≤ 2048) (q3 : s.size ≤ 262144)
    (hl : bs.length = n0) (hr0 : RdB w a0 bs) (hr1 : RdS w a1 n1 S) (hc0 : a0 = none → c0 = 0) (hc1 : a1 = none → c1 = 0) :
    Calls Try.prog 3 #[.slice a0 n0 c0, .slice a1 n1 c1, .string s] w fun e w' => e = .returned (.bool true) ∧ Below w.heap.size w w' := by
  have HL := hide hl
  have HR := hide (And.intro hr0 (And.intro hr1 (And.intro hc0 hc1)))
  clear hl hr0 hr1 hc0 hc1
  by_cases hne : n1 = n0
  · subst hne
    go_enter Try.func3, Try.ntmps3
    go_wp2_with fail
    refine (bytes_yes a0 a1 n1 c0 n1 c1 s _ h).mono ?_
    rintro e w1 ⟨rfl, rfl⟩
    go_wp2_with fail
    refine (cloneB_any a0 n1 c0 bs _ w1.heap.size (unhide HL) (by omega) (Nat.le_refl _) HR.out.1 HR.out.2.2.1).mono ?_
    rintro e w2 ⟨b0, d0, rfl, o2, k2, _⟩
    have s2 := k2.size
    go_wp2_with fail
    refine (cloneS_any a1 n1 c1 S _ w1.heap.size (by omega) s2 (HR.out.2.1.kept k2) HR.out.2.2.2).mono ?_
    rintro e w3 ⟨b1, d1, rfl, o3, k3, _⟩
    have o23 := o2.kept0 k3
    have s3 := k3.size
    obtain ⟨st, hst⟩ : ∃ st : Nat → Bool, ∀ i, st i = bs.getD i false := ⟨_, fun _ => rfl⟩
    have HSTE := hide hst
    clear hst
    go_wp2_with fail
    refine (zzmatches_any b0 b1 n1 d0 d1 bs S s _ w1.heap.size (by omega) (by omega) (by omega) o23 o3 st HSTE).mono ?_
    rintro e w4 ⟨rfl, k4⟩
    have s4 := k4.size
    go_wp2_with fail
    refine (model_any b0 b1 n1 d0 d1 bs S s _ w1.heap.size (by omega) (by omega) (by omega) (o23.kept0 k4) (o3.kept0 k4) st HSTE).mono ?_
    rintro e w5 ⟨rfl, k5⟩
    generalize Pl.R (toks n1 st S) s.data.toList 0 0 = r
    go_wp2_with fail
    go_ret
    refine ⟨?_, (((k2.next k3).next k4).next k5).below (Nat.le_refl _) (by simp)⟩
    cases r <;> rfl
  · have hd : ((n1 : Int) != (n0 : Int)) = true := by rw [bne_iff_ne]; omega
    go_enter Try.func3, Try.ntmps3
    go_wp2_with fail
    refine (bytes_yes a0 a1 n0 c0 n1 c1 s _ h).mono ?_
    rintro e w1 ⟨rfl, rfl⟩
    go_wp2_with fail
    refine (cloneB_any a0 n0 c0 bs _ w1.heap.size (unhide HL) (by omega) (Nat.le_refl _) HR.out.1 HR.out.2.2.1).mono ?_
    rintro e w2 ⟨b0, d0, rfl, o2, k2, _⟩
    have s2 := k2.size
    go_wp2_with fail
    refine (cloneS_any a1 n1 c1 S _ w1.heap.size (by omega) s2 (HR.out.2.1.kept k2) HR.out.2.2.2).mono ?_
    rintro e w3 ⟨b1, d1, rfl, o3, k3, _⟩
    go_wp2_with fail
    go_ret
    exact ⟨rfl, (k2.next k3).below (Nat.le_refl _) (by simp)⟩

end Go.Proofs.Qxb6601532a
