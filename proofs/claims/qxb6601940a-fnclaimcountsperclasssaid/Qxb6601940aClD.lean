import Derived.Test.Qxb6601940aClC
namespace Go.Proofs.Qxb6601940a
open Go.RowKit
set_option linter.unusedVariables false

theorem cls_new (w : World) (vo vs u1 u3 u4 : Value) : Cls (w.alloc (.cells #[vo, u1, vs, u3, u4] 67)) w.heap.size vo vs := by
  have hn := heap_alloc_new w (.cells #[vo, u1, vs, u3, u4] 67)
  exact ⟨cell_of_row _ _ 0 _ 67 (0, 0) hn, cell_of_row _ _ 2 _ 67 (0, 0) hn, by simp⟩

theorem ownLow {e : TypeId} {k : IntKind} {w : World} {B B2 : Nat} {v : Value} {n : Nat} {xs : List Int} (h : Own e k w B2 v n xs) (hB : B ≤ B2) : Own e k w B v n xs := by
  refine ⟨h.1, ?_⟩
  rcases h.2 with hn | ⟨g, cap, cur, hv, hb, rest⟩
  · exact .inl hn
  · exact .inr ⟨g, cap, cur, hv, Nat.le_trans hB hb, rest⟩

set_option maxHeartbeats 400000 in
theorem zzc_nil (v0 v1 v3 : Value) (w : World) (h0 : ∃ a n c, v0 = .slice a n c) (h1 : ∃ a n c, v1 = .slice a n c) : Calls Try.prog 25 #[v0, v1, .slice none 0 0, v3] w fun e w' => e = .returned (.slice none 0 0) ∧ Kept [] w w' := by
  obtain ⟨a0, n0, c0, rfl⟩ := h0
  obtain ⟨a1, n1, c1, rfl⟩ := h1
  go_enter Try.func25, Try.ntmps25
  go_wp2_with fail
  refine (counts_nil w.heap.size v3 _).mono ?_
  rintro e w1 ⟨rfl, rfl⟩
  go_wp2
  go_ret
  exact ⟨rfl, Kept.alloc _ _⟩

set_option maxHeartbeats 400000 in
theorem zzc_ofnil (a1 : Option Addr) (n1 c1 : Nat) (x2 : Addr) (n2 c2 : Nat) (v3 : Value) (w : World) : Calls Try.prog 25 #[.slice none 0 0, .slice a1 n1 c1, .slice (some x2) n2 c2, v3] w fun e w' => ∃ g, e = .returned (.slice (some ⟨g, 0, none⟩) 1 1) ∧ w'.cell? ⟨g, 0, none⟩ = some (.int .i64 n2) ∧ Kept [] w w' := by
  go_enter Try.func25, Try.ntmps25
  go_wp2_with fail
  refine (counts_ofnil w.heap.size (.slice a1 n1 c1) x2 n2 c2 v3 _ (cls_new w _ _ _ _ _)).mono ?_
  rintro e w1 ⟨rfl, hc, hk⟩
  have HC : Hid (w1.cell? _ = _) := hc
  clear hc
  go_wp2
  go_ret
  exact ⟨_, rfl, by simpa using HC.out, (Kept.alloc _ _).next hk⟩

set_option maxHeartbeats 400000 in
theorem zzc_ids (x0 : Addr) (n0 c0 : Nat) (ofs : List Int) (a1 : Option Addr) (n1 c1 : Nat) (x2 : Addr) (n2 c2 : Nat) (xs : List Int) (w : World)
    (hl0 : ofs.length = n0) (hl2 : xs.length = n2) (hn0 : n0 ≤ 65536) (hn1 : n1 ≤ 4096) (hn2 : n2 ≤ 4096) (hr0 : Rd .i32 w (some x0) ofs) (hr2 : Rd .i64 w (some x2) xs) (hnodes : nodesB ofs n1 xs = true) :
    Calls Try.prog 25 #[.slice (some x0) n0 c0, .slice a1 n1 c1, .slice (some x2) n2 c2, .slice none 0 0] w fun e w' => ∃ g, e = .returned (.slice (some ⟨g, 0, none⟩) n1 n1) ∧ Own 3 .i64 w' w.heap.size (.slice (some ⟨g, 0, none⟩) n1 n1) n1 (Gu ofs n1 xs n2) ∧ Kept [] w w' := by
  have HL : Hid (ofs.length = n0 ∧ xs.length = n2 ∧ nodesB ofs n1 xs = true) := ⟨hl0, hl2, hnodes⟩
  clear hl0 hl2 hnodes
  go_enter Try.func25, Try.ntmps25
  go_wp2_with fail
  refine (counts_ids w.heap.size (some x0) x0 n0 c0 ofs a1 n1 c1 x2 n2 c2 xs _ rfl HL.out.1 HL.out.2.1 hn0 hn1 hn2 (hr0.kept (Kept.alloc _ _)) (hr2.kept (Kept.alloc _ _)) HL.out.2.2 (cls_new w _ _ _ _ _)).mono ?_
  rintro e w1 ⟨rfl, ho, hk⟩
  have hb : w.heap.size ≤ w.heap.size + 1 := by omega
  have HO : Hid (Own 3 .i64 w1 w.heap.size _ n1 (Gu ofs n1 xs n2)) := ownLow ho (by simp)
  clear ho
  go_wp2
  go_ret
  exact ⟨_, rfl, by simpa using HO.out, (Kept.alloc _ _).next hk⟩

set_option maxHeartbeats 400000 in
theorem zzc_gone (x0 : Addr) (n0 c0 : Nat) (ofs : List Int) (a1 : Option Addr) (n1 c1 : Nat) (size : List Int) (x2 : Addr) (n2 c2 : Nat) (x3 : Addr) (n3 c3 : Nat) (xs : List Int) (w : World)
    (hl0 : ofs.length = n0) (hl1 : size.length = n1) (hl3 : xs.length = n3) (hn0 : n0 ≤ 65536) (hn1 : n1 ≤ 4096) (hn3 : n3 ≤ 4096) (hr0 : Rd .i32 w (some x0) ofs) (hr1 : Rd .i64 w a1 size) (hr3 : Rd .i64 w (some x3) xs) (hnodes : nodesB ofs n1 xs = true)
    (hsz : ∀ z ∈ size, -9223372036854775808 ≤ z ∧ z ≤ 9223372036854775807) :
    Calls Try.prog 25 #[.slice (some x0) n0 c0, .slice a1 n1 c1, .slice (some x2) n2 c2, .slice (some x3) n3 c3] w fun e w' => ∃ g, e = .returned (.slice (some ⟨g, 0, none⟩) n1 n1) ∧ Own 3 .i64 w' w.heap.size (.slice (some ⟨g, 0, none⟩) n1 n1) n1 (Gd ofs size xs n3) ∧ Kept [] w w' := by
  have HL : Hid (ofs.length = n0 ∧ size.length = n1 ∧ xs.length = n3 ∧ nodesB ofs n1 xs = true ∧ ∀ z ∈ size, -9223372036854775808 ≤ z ∧ z ≤ 9223372036854775807) := ⟨hl0, hl1, hl3, hnodes, hsz⟩
  clear hl0 hl1 hl3 hnodes hsz
  go_enter Try.func25, Try.ntmps25
  go_wp2_with fail
  refine (counts_gone w.heap.size x0 n0 c0 ofs a1 n1 c1 size x2 n2 c2 x3 n3 c3 xs _ HL.out.1 HL.out.2.1 HL.out.2.2.1 hn0 hn1 hn3 (hr0.kept (Kept.alloc _ _)) (hr1.kept (Kept.alloc _ _)) (hr3.kept (Kept.alloc _ _)) HL.out.2.2.2.1 HL.out.2.2.2.2 (cls_new w _ _ _ _ _)).mono ?_
  rintro e w1 ⟨rfl, ho, hk⟩
  have HO : Hid (Own 3 .i64 w1 w.heap.size _ n1 (Gd ofs size xs n3)) := ownLow ho (by simp)
  clear ho
  go_wp2
  go_ret
  exact ⟨_, rfl, by simpa using HO.out, (Kept.alloc _ _).next hk⟩

/-! ### The domain -/
def domB (ofs : List Int) (a0 a2 a3 : Option Addr) (n1 : Nat) (ids gone : List Int) : Bool :=
  if a2.isNone = true then true else if a0.isNone = true then true else if a3.isNone = true then nodesB ofs n1 ids else nodesB ofs n1 gone

set_option maxHeartbeats 1000000 in
theorem dom_any (a0 : Option Addr) (n0 c0 : Nat) (ofs : List Int) (a1 : Option Addr) (n1 c1 : Nat) (a2 : Option Addr) (n2 c2 : Nat) (ids : List Int) (a3 : Option Addr) (n3 c3 : Nat) (gone : List Int) (w : World)
    (hl0 : ofs.length = n0) (hl2 : ids.length = n2) (hl3 : gone.length = n3) (hn0 : n0 ≤ 65536) (hn1 : n1 ≤ 4096) (hn2 : n2 ≤ 4096) (hn3 : n3 ≤ 4096) (hr0 : Rd .i32 w a0 ofs) (hr2 : Rd .i64 w a2 ids) (hr3 : Rd .i64 w a3 gone) (hof : ∀ j, -2147483648 ≤ ofs.getD j 0 ∧ ofs.getD j 0 ≤ 2147483647) :
    Calls Try.prog 22 #[.slice a0 n0 c0, .slice a1 n1 c1, .slice a2 n2 c2, .slice a3 n3 c3] w fun e w' => e = .returned (.bool (domB ofs a0 a2 a3 n1 ids gone)) ∧ w' = w := by
  have q35 : ∀ (w : World) (a : Option Addr) (n c n' c' : Nat), (binOp .eql 35 (.slice a n c) (.slice none n' c')).run Try.prog w = .ok (.bool a.isNone) w := fun w a n c n' c' => Lib.run_eql_slice_nil w _ _ a n c n' c' Try.underlying35
  have q34 : ∀ (w : World) (a : Option Addr) (n c n' c' : Nat), (binOp .eql 34 (.slice a n c) (.slice none n' c')).run Try.prog w = .ok (.bool a.isNone) w := fun w a n c n' c' => Lib.run_eql_slice_nil w _ _ a n c n' c' Try.underlying34
  have q35n : ∀ (w : World) (a : Option Addr) (n c n' c' : Nat), (binOp .neq 35 (.slice a n c) (.slice none n' c')).run Try.prog w = .ok (.bool (!a.isNone)) w := fun w a n c n' c' => run_neq_slice_nil_any w _ _ a n c n' c' Try.underlying35
  have HL : Hid (ofs.length = n0 ∧ ids.length = n2 ∧ gone.length = n3 ∧ ∀ j, -2147483648 ≤ ofs.getD j 0 ∧ ofs.getD j 0 ≤ 2147483647) := ⟨hl0, hl2, hl3, hof⟩
  clear hl0 hl2 hl3 hof
  cases a2 with
  | none =>
    go_enter Try.func22, Try.ntmps22
    go_wp2
    go_ret
    exact ⟨rfl, rfl⟩
  | some x2 =>
    cases a0 with
    | none =>
      go_enter Try.func22, Try.ntmps22
      go_wp2
      go_ret
      exact ⟨rfl, rfl⟩
    | some x0 =>
      cases a3 with
      | none =>
        have HD : Hid (domB ofs (some x0) (some x2) none n1 ids gone = nodesB ofs n1 ids) := rfl
        go_enter Try.func22, Try.ntmps22
        go_wp2_with fail
        refine (nodesIn_any (some x0) n0 c0 ofs n1 (some x2) n2 c2 ids _ HL.out.1 HL.out.2.1 (by omega) (by omega) (by omega) hr0 hr2 HL.out.2.2.2).mono ?_
        rintro e w1 ⟨rfl, rfl⟩
        go_wp2
        go_ret
        exact ⟨by rw [HD.out]; rfl, rfl⟩
      | some x3 =>
        have HD : Hid (domB ofs (some x0) (some x2) (some x3) n1 ids gone = nodesB ofs n1 gone) := rfl
        go_enter Try.func22, Try.ntmps22
        go_wp2_with fail
        refine (nodesIn_any (some x0) n0 c0 ofs n1 (some x3) n3 c3 gone _ HL.out.1 HL.out.2.2.1 (by omega) (by omega) (by omega) hr0 hr3 HL.out.2.2.2).mono ?_
        rintro e w1 ⟨rfl, rfl⟩
        go_wp2
        go_ret
        exact ⟨by rw [HD.out]; rfl, rfl⟩

set_option maxHeartbeats 400000 in
theorem bytes21_yes (a0 a1 a2 a3 : Option Addr) (n0 c0 n1 c1 n2 c2 n3 c3 : Nat) (w : World) (h : n0 + n1 + n2 + n3 ≤ 1048576) :
    Calls Try.prog 21 #[.slice a0 n0 c0, .slice a1 n1 c1, .slice a2 n2 c2, .slice a3 n3 c3] w fun e w' => e = .returned (.bool true) ∧ w' = w := by
  go_enter Try.func21, Try.ntmps21
  go_wp2
  go_ret
  exact ⟨rfl, rfl⟩
set_option maxHeartbeats 400000 in
theorem bytes21_no (a0 a1 a2 a3 : Option Addr) (n0 c0 n1 c1 n2 c2 n3 c3 : Nat) (w : World) (h : 1048576 < n0 + n1 + n2 + n3) :
    Calls Try.prog 21 #[.slice a0 n0 c0, .slice a1 n1 c1, .slice a2 n2 c2, .slice a3 n3 c3] w fun e w' => e = .returned (.bool false) ∧ w' = w := by
  go_enter Try.func21, Try.ntmps21
  go_wp2
  all_goals
    go_ret
    exact ⟨rfl, rfl⟩

end Go.Proofs.Qxb6601940a
