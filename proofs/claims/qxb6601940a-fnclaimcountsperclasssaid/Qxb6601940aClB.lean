import Derived.Test.Qxb6601940aClA
namespace Go.Proofs.Qxb6601940a
open Go.RowKit
set_option linter.unusedVariables false

set_option maxHeartbeats 400000 in
theorem inClass_any (a0 : Option Addr) (n0 c0 : Nat) (ofs : List Int) (a2 : Option Addr) (n2 c2 : Nat) (xs : List Int) (cl c : Nat) (w : World) (hl0 : ofs.length = n0) (hl2 : xs.length = n2) (hn0 : n0 ≤ 2000000) (hn2 : n2 ≤ 2000000) (hcl : cl ≤ 2000000) (hr0 : Rd .i32 w a0 ofs) (hr2 : Rd .i64 w a2 xs)
    (hnodes : nodesB ofs cl xs = true) (hc : c ≤ 2000000) :
    Calls Try.prog 26 #[.slice a0 n0 c0, .slice a2 n2 c2, .int .i64 c] w fun e w' => e = .returned (.int .i64 (cnt ofs xs c : Int)) ∧ w' = w := by
  have HL0 : Hid (ofs.length = n0) := hl0
  have HL2 : Hid (xs.length = n2) := hl2
  have HN : Hid (nodesB ofs cl xs = true) := hnodes
  clear hl0 hl2 hnodes
  go_enter Try.func26, Try.ntmps26
  go_wp2
  go_loop [7, 8] (fun t i => ∃ k : Nat, k ≤ n2 ∧ i = .int .i64 k ∧ t = .int .i64 (cnt ofs (xs.take k) c : Int)) (fun _ i => n2 - (intOf i).toNat)
  case atStart => exact ⟨0, Nat.zero_le _, rfl, by simp [cnt_nil]⟩
  case round =>
    obtain ⟨k, hk, rfl, rfl⟩ := hrel
    by_cases hlt : k < n2
    · have hk2 : k < xs.length := by rw [HL2.out]; exact hlt
      obtain ⟨b, off, rfl, hcell⟩ := hr2.at (by omega)
      have hcx := hcell k hk2
      obtain ⟨xn, y, hx, hxl, hof, hy⟩ := nodesB_at HN.out hk2
      rw [hx] at hcx
      obtain ⟨b0, off0, rfl, hcell0⟩ := hr0.at (by omega)
      have hc0 := hcell0 xn hxl
      rw [hof] at hc0
      have hsn := cnt_snoc ofs (xs.take k) (xs.getD k 0) c
      rw [← take_snoc2 hk2, hx, Int.toNat_natCast, hof] at hsn
      have HSN : Hid (cnt ofs (xs.take (k + 1)) c = cnt ofs (xs.take k) c + if (y : Int) = (c : Int) then 1 else 0) := hsn
      have hle := cnt_le ofs (xs.take k) c
      rw [List.length_take] at hle
      rw [HL0.out] at hxl
      clear hsn hr2 hr0 hcell hcell0 hx hof hk2
      generalize cnt ofs (xs.take k) c = cn at *
      by_cases heq : (y : Int) = (c : Int)
      · have hyc : y = c := by omega
        subst hyc
        go_wp2
        go_round
        case rel => exact ⟨k + 1, by omega, by go_num, by rw [HSN.out, if_pos rfl]; go_num⟩
        case measure => simp [intOf]; omega
      · have hne : ((y : Int) == (c : Int)) = false := by simpa using heq
        go_wp2
        go_round
        case rel => exact ⟨k + 1, by omega, by go_num, by rw [HSN.out, if_neg heq]; go_num⟩
        case measure => simp [intOf]; omega
    · obtain rfl : k = n2 := by omega
      rw [show xs.take k = xs from by rw [← HL2.out]; exact List.take_length]
      go_wp2
      go_ret
      exact ⟨rfl, rfl⟩

/-- What 'counts' reads of the classes. -/
def Cls (w : World) (sb : Nat) (vo vs : Value) : Prop := w.cell? ⟨sb, 0, none⟩ = some vo ∧ w.cell? ⟨sb, 2, none⟩ = some vs ∧ sb < w.heap.size
theorem Cls.kept {w w' : World} {sb : Nat} {vo vs : Value} (h : Cls w sb vo vs) (hk : Kept [] w w') : Cls w' sb vo vs :=
  ⟨(hk.cell (a := ⟨sb, 0, none⟩) h.2.2 (by simp)).trans h.1, (hk.cell (a := ⟨sb, 2, none⟩) h.2.2 (by simp)).trans h.2.1, Nat.lt_of_lt_of_le h.2.2 hk.size⟩

set_option maxHeartbeats 400000 in
theorem count_any (sb : Nat) (vo : Value) (a1 : Option Addr) (n1 c1 : Nat) (w : World) (h : Cls w sb vo (.slice a1 n1 c1)) :
    Calls Try.prog 43 #[.pointer (some ⟨sb, 0, none⟩)] w fun e w' => e = .returned (.int .i64 n1) ∧ w' = w := by
  have q2 := h.2.1
  go_enter Try.func43, Try.ntmps43
  go_wp2
  go_ret
  exact ⟨rfl, rfl⟩

set_option maxHeartbeats 400000 in
theorem counts_nil (sb : Nat) (v2 : Value) (w : World) :
    Calls Try.prog 40 #[.pointer (some ⟨sb, 0, none⟩), .slice none 0 0, v2] w fun e w' => e = .returned (.slice none 0 0) ∧ w' = w := by
  have q35 : ∀ (w : World) (a : Option Addr) (n c n' c' : Nat), (binOp .eql 35 (.slice a n c) (.slice none n' c')).run Try.prog w = .ok (.bool a.isNone) w := fun w a n c n' c' => Lib.run_eql_slice_nil w _ _ a n c n' c' Try.underlying35
  go_enter Try.func40, Try.ntmps40
  go_wp2
  go_ret
  exact ⟨rfl, rfl⟩

set_option maxHeartbeats 400000 in
theorem counts_ofnil (sb : Nat) (vs : Value) (x : Addr) (n2 c2 : Nat) (v2 : Value) (w : World) (h : Cls w sb (.slice none 0 0) vs) :
    Calls Try.prog 40 #[.pointer (some ⟨sb, 0, none⟩), .slice (some x) n2 c2, v2] w fun e w' => e = .returned (.slice (some ⟨w.heap.size, 0, none⟩) 1 1) ∧ w'.cell? ⟨w.heap.size, 0, none⟩ = some (.int .i64 n2) ∧ Kept [] w w' := by
  have q35 : ∀ (w : World) (a : Option Addr) (n c n' c' : Nat), (binOp .eql 35 (.slice a n c) (.slice none n' c')).run Try.prog w = .ok (.bool a.isNone) w := fun w a n c n' c' => Lib.run_eql_slice_nil w _ _ a n c n' c' Try.underlying35
  have q34 : ∀ (w : World) (a : Option Addr) (n c n' c' : Nat), (binOp .eql 34 (.slice a n c) (.slice none n' c')).run Try.prog w = .ok (.bool a.isNone) w := fun w a n c n' c' => Lib.run_eql_slice_nil w _ _ a n c n' c' Try.underlying34
  have q0 := h.1
  go_enter Try.func40, Try.ntmps40
  go_wp2
  go_ret
  exact ⟨rfl, by simp, Kept.alloc _ _⟩

end Go.Proofs.Qxb6601940a
