import Derived.Test.Qxb6601940aClB
namespace Go.Proofs.Qxb6601940a
open Go.RowKit
set_option linter.unusedVariables false

theorem Try.size3 : (Try.prog.info? 3).map (·.size) = some 1 := by kernel_rfl
theorem splice_all {L cs : List Value} (h : cs.length = L.length) : splice L 0 cs = cs := by
  unfold splice
  rw [List.take_zero, List.nil_append, Nat.zero_add, h, List.drop_length, List.append_nil]

set_option maxHeartbeats 1000000 in
theorem counts_ids (sb : Nat) (a0 : Option Addr) (x0 : Addr) (n0 c0 : Nat) (ofs : List Int) (a1 : Option Addr) (n1 c1 : Nat) (x2 : Addr) (n2 c2 : Nat) (xs : List Int) (w : World) (ha0 : a0 = some x0)
    (hl0 : ofs.length = n0) (hl2 : xs.length = n2) (hn0 : n0 ≤ 65536) (hn1 : n1 ≤ 4096) (hn2 : n2 ≤ 4096) (hr0 : Rd .i32 w a0 ofs) (hr2 : Rd .i64 w (some x2) xs) (hnodes : nodesB ofs n1 xs = true) (h : Cls w sb (.slice a0 n0 c0) (.slice a1 n1 c1)) :
    Calls Try.prog 40 #[.pointer (some ⟨sb, 0, none⟩), .slice (some x2) n2 c2, .slice none 0 0] w fun e w' => e = .returned (.slice (some ⟨w.heap.size, 0, none⟩) n1 n1) ∧ Own 3 .i64 w' w.heap.size (.slice (some ⟨w.heap.size, 0, none⟩) n1 n1) n1 (Gu ofs n1 xs n2) ∧ Kept [] w w' := by
  have q35 : ∀ (w : World) (a : Option Addr) (n c n' c' : Nat), (binOp .eql 35 (.slice a n c) (.slice none n' c')).run Try.prog w = .ok (.bool a.isNone) w := fun w a n c n' c' => Lib.run_eql_slice_nil w _ _ a n c n' c' Try.underlying35
  have q34 : ∀ (w : World) (a : Option Addr) (n c n' c' : Nat), (binOp .eql 34 (.slice a n c) (.slice none n' c')).run Try.prog w = .ok (.bool a.isNone) w := fun w a n c n' c' => Lib.run_eql_slice_nil w _ _ a n c n' c' Try.underlying34
  have q35n : ∀ (w : World) (a : Option Addr) (n c n' c' : Nat), (binOp .neq 35 (.slice a n c) (.slice none n' c')).run Try.prog w = .ok (.bool (!a.isNone)) w := fun w a n c n' c' => run_neq_slice_nil_any w _ _ a n c n' c' Try.underlying35
  subst ha0
  obtain ⟨i3, hi, hz0, hz1, hz2⟩ := info_parts Try.info3
  have q0 := h.1
  have HL0 : Hid (ofs.length = n0) := hl0
  have HL2 : Hid (xs.length = n2) := hl2
  have HN : Hid (nodesB ofs n1 xs = true) := hnodes
  clear hl0 hl2 hnodes
  go_enter Try.func40, Try.ntmps40
  go_wp2_with fail
  refine (count_any sb _ a1 n1 c1 _ h).mono ?_
  rintro e w1 ⟨rfl, rfl⟩
  go_wp2_with (first | (at_make; refine wpList_make_full _ rfl (.tmp 25) (.tmp 25) 35 rfl w1.heap.size 3 i3 (.int .i64 0) 1 Try.underlying35 hi hz0 hz1 _ _ _ _ n1 rfl rfl rfl rfl (by rw [hz2]; omega) (by unfold maxLen; omega) (Nat.le_refl _) ?_; intro w2 hown2 hgrow2))
  have hA : Own 3 .i64 w2 w1.heap.size (.slice (some ⟨w1.heap.size, 0, none⟩) n1 n1) n1 (Gu ofs n1 xs 0) := by
    rw [Gu_zero]; exact own_made2 hown2
  have hK := Kept.ofNew hgrow2
  clear hown2 hgrow2
  go_loopw [57] (fun i wr => ∃ k : Nat, k ≤ n2 ∧ i = .int .i64 k ∧ Own 3 .i64 wr w1.heap.size (.slice (some ⟨w1.heap.size, 0, none⟩) n1 n1) n1 (Gu ofs n1 xs k) ∧ Kept [] w1 wr) (fun i _ => n2 - (intOf i).toNat)
  case atStart => exact ⟨0, Nat.zero_le _, rfl, hA, hK⟩
  case round =>
    clear hA hK q0
    obtain ⟨k, hk, rfl, hown, hkept⟩ := hrel
    have q0 := (h.kept hkept).1
    by_cases hlt : k < n2
    · have hk2 : k < xs.length := by rw [HL2.out]; exact hlt
      obtain ⟨xn, y, hx, hxl, hof, hy⟩ := nodesB_at HN.out hk2
      obtain ⟨b2, off2, hv2, hcell2⟩ := (hr2.kept hkept).at (by omega)
      simp only [Option.some.injEq] at hv2
      subst hv2
      obtain ⟨b0, off0, hv0, hcell0⟩ := (hr0.kept hkept).at (by omega)
      simp only [Option.some.injEq] at hv0
      subst hv0
      have e2 := hcell2 k hk2
      rw [hx] at e2
      have e0 := hcell0 xn hxl
      rw [hof] at e0
      have ei := hown.cell hy
      rw [Gu_at hy] at ei
      have fi := hown.fr y
      have ST := hown.store y ((cnt ofs (xs.take k) y : Int) + 1)
      rw [Gu_step hk2 hx hof hy] at ST
      have K2 := hkept.trans (S := []) ST.2 (by intro j hj hj2; simp at hj; omega)
      have HST : Hid (Own 3 .i64 (wr.setCell ⟨w1.heap.size, y, none⟩ (.int .i64 ((cnt ofs (xs.take k) y : Int) + 1))) w1.heap.size (.slice (some ⟨w1.heap.size, 0, none⟩) n1 n1) n1 (Gu ofs n1 xs (k + 1)) ∧ Kept [] w1 (wr.setCell ⟨w1.heap.size, y, none⟩ (.int .i64 ((cnt ofs (xs.take k) y : Int) + 1)))) := ⟨ST.1, K2⟩
      have hle := cnt_le ofs (xs.take k) y
      rw [List.length_take] at hle
      rw [HL0.out] at hxl
      clear ST K2 hown hr2 hr0 hcell0 hcell2 hx hof hk2
      generalize cnt ofs (xs.take k) y = cn at *
      go_wp2
      go_roundw
      case rel => exact ⟨k + 1, by omega, by go_num, HST.out.1, HST.out.2⟩
      case measure => simp [intOf]; omega
    · obtain rfl : k = n2 := by omega
      go_wp2
      go_ret
      exact ⟨rfl, hown, hkept⟩

theorem row_of {w : World} {B g n : Nat} {xs : List Int} (h : Own 3 .i64 w B (.slice (some ⟨g, 0, none⟩) n n) n xs) : ∃ cur : List Value, w.heap[g]? = some (.cells cur.toArray 3 (0, 0)) ∧ cur.length = n := by
  rcases h.2 with ⟨hv, _⟩ | ⟨g', cap, cur, hv, _, hg, _, _, hs, _⟩
  · simp at hv
  · simp only [Value.slice.injEq, Option.some.injEq, Addr.mk.injEq, and_true, true_and] at hv
    obtain ⟨rfl, rfl⟩ := hv
    exact ⟨cur.toList, by simpa using hg, by simpa using hs⟩
theorem copy_len {X : List Value} {n : Nat} (h : Hid (X.length = n)) : X.length = Nat.min n n := by rw [h.out]; simp
theorem copy_fit {X cur : List Value} {n : Nat} (h : Hid (X.length = n)) (h2 : Hid (cur.length = n)) : 0 + X.length ≤ cur.length := by rw [h.out, h2.out]; omega
theorem copy_pos {w : World} {a : Option Addr} {size : List Int} {X : List Value} {n g : Nat} (hr : Hid (Rd .i64 w a size)) (hx : Hid (X = size.map (Value.int .i64))) (hl : Hid (X.length = n)) :
    0 < X.length → (some (⟨g, 0, none⟩ : Addr)) = some ⟨g, 0, none⟩ ∧ ∃ ad, a = some ad ∧ ∀ j v, X[j]? = some v → w.cell? (ad.add j) = some v := by
  intro hp
  refine ⟨rfl, ?_⟩
  have hxe := hx.out
  cases a with
  | none => rw [hr.out.1 rfl] at hxe; rw [hxe] at hp; simp at hp
  | some ad =>
    refine ⟨ad, rfl, fun j v hv => ?_⟩
    rw [hxe, List.getElem?_map] at hv
    obtain ⟨z, hz, rfl⟩ := Option.map_eq_some_iff.1 hv
    have hj := (List.getElem?_eq_some_iff.1 hz).1
    rw [hr.out.2 ad rfl j hj]
    simp [List.getD, hz]

theorem own_of {w : World} {g n : Nat} {X : List Value} {size : List Int} (hg : w.heap[g]? = some (.cells X.toArray 3 (0, 0))) (hx : X = size.map (Value.int .i64)) (hl : X.length = n) (hn : n ≤ 2000000) : Own 3 .i64 w g (.slice (some ⟨g, 0, none⟩) n n) n size := by
  subst hx
  refine ⟨by rw [hl]; omega, .inr ⟨g, n, _, rfl, Nat.le_refl _, hg, Nat.le_refl _, by unfold maxLen; omega, ?_, ?_⟩⟩
  · rw [List.size_toArray, hl]; omega
  · rw [Nat.mul_one, ← hl]; exact List.take_length

set_option maxHeartbeats 1000000 in
theorem counts_gone (sb : Nat) (x0 : Addr) (n0 c0 : Nat) (ofs : List Int) (a1 : Option Addr) (n1 c1 : Nat) (size : List Int) (x2 : Addr) (n2 c2 : Nat) (x3 : Addr) (n3 c3 : Nat) (xs : List Int) (w : World)
    (hl0 : ofs.length = n0) (hl1 : size.length = n1) (hl3 : xs.length = n3) (hn0 : n0 ≤ 65536) (hn1 : n1 ≤ 4096) (hn3 : n3 ≤ 4096) (hr0 : Rd .i32 w (some x0) ofs) (hr1 : Rd .i64 w a1 size) (hr3 : Rd .i64 w (some x3) xs) (hnodes : nodesB ofs n1 xs = true)
    (hsz : ∀ z ∈ size, -9223372036854775808 ≤ z ∧ z ≤ 9223372036854775807) (h : Cls w sb (.slice (some x0) n0 c0) (.slice a1 n1 c1)) :
    Calls Try.prog 40 #[.pointer (some ⟨sb, 0, none⟩), .slice (some x2) n2 c2, .slice (some x3) n3 c3] w fun e w' => e = .returned (.slice (some ⟨w.heap.size, 0, none⟩) n1 n1) ∧ Own 3 .i64 w' w.heap.size (.slice (some ⟨w.heap.size, 0, none⟩) n1 n1) n1 (Gd ofs size xs n3) ∧ Kept [] w w' := by
  have q35 : ∀ (w : World) (a : Option Addr) (n c n' c' : Nat), (binOp .eql 35 (.slice a n c) (.slice none n' c')).run Try.prog w = .ok (.bool a.isNone) w := fun w a n c n' c' => Lib.run_eql_slice_nil w _ _ a n c n' c' Try.underlying35
  have q34 : ∀ (w : World) (a : Option Addr) (n c n' c' : Nat), (binOp .eql 34 (.slice a n c) (.slice none n' c')).run Try.prog w = .ok (.bool a.isNone) w := fun w a n c n' c' => Lib.run_eql_slice_nil w _ _ a n c n' c' Try.underlying34
  have q35n : ∀ (w : World) (a : Option Addr) (n c n' c' : Nat), (binOp .neq 35 (.slice a n c) (.slice none n' c')).run Try.prog w = .ok (.bool (!a.isNone)) w := fun w a n c n' c' => run_neq_slice_nil_any w _ _ a n c n' c' Try.underlying35
  obtain ⟨i3, hi, hz0, hz1, hz2⟩ := info_parts Try.info3
  have q0 := h.1
  have HL0 : Hid (ofs.length = n0) := hl0
  have HL1 : Hid (size.length = n1) := hl1
  have HL3 : Hid (xs.length = n3) := hl3
  have HN : Hid (nodesB ofs n1 xs = true) := hnodes
  have HSZ : Hid (∀ z ∈ size, -9223372036854775808 ≤ z ∧ z ≤ 9223372036854775807) := hsz
  clear hl0 hl1 hl3 hnodes hsz
  go_enter Try.func40, Try.ntmps40
  go_wp2_with fail
  refine (count_any sb _ a1 n1 c1 _ h).mono ?_
  rintro e w1 ⟨rfl, rfl⟩
  obtain ⟨X, hX⟩ : ∃ X, X = size.map (Value.int .i64) := ⟨_, rfl⟩
  have HXL : Hid (X.length = n1) := by show X.length = n1; rw [hX, List.length_map]; exact HL1.out
  have HX1 : Hid (∀ v ∈ X, v.oneCell' = true) := by rw [hX]; exact ints_oneCell .i64 size
  have HXE : Hid (X = size.map (Value.int .i64)) := hX
  clear hX
  go_wp2_with (first
    | (at_make; refine wpList_make_full _ rfl (.tmp 25) (.tmp 25) 35 rfl w1.heap.size 3 i3 (.int .i64 0) 1 Try.underlying35 hi hz0 hz1 _ _ _ _ n1 rfl rfl rfl rfl (by rw [hz2]; omega) (by unfold maxLen; omega) (Nat.le_refl _) ?_; intro w2 hown2 hgrow2; have hA2 := own_made2 hown2; have hK2 := Kept.ofNew hgrow2; have q2 := (h.kept hK2).2.1; obtain ⟨cur, hcur, hcl⟩ := row_of hA2; have hlt2 := (hA2.lt w1.heap.size rfl).2; have HR1 : Hid (Rd .i64 w2 a1 size) := hr1.kept hK2; have HA2 : Hid (Own _ _ _ _ _ _ _) := hA2; have HCL : Hid (cur.length = n1) := hcl; have HCU : Hid (w2.heap[w1.heap.size]? = some (.cells cur.toArray 3 (0, 0))) := hcur; clear hown2 hgrow2 hA2 hcl hcur)
    | (refine wpList_copy_splice (by rfl) (.tmp 29) (.tmp 33) 35 35 (by rfl) 3 Try.underlying35 Try.size3 (some ⟨w1.heap.size, 0, none⟩) a1 n1 n1 n1 c1 (by rfl) (by rfl) w1.heap.size 0 cur 3 HCU.out X (copy_len HXL) (copy_pos HR1 HXE HXL) (copy_fit HXL HCL) HX1.out w1.heap.size w2 (Below.refl _ _) (Nat.le_refl _) ?_; intro w3 HG3 hB3))
  have hX3 : splice cur 0 X = X := splice_all (by rw [HXL.out, HCL.out])
  have hA : Own 3 .i64 w3 w1.heap.size (.slice (some ⟨w1.heap.size, 0, none⟩) n1 n1) n1 (Gd ofs size xs 0) := by
    have hg := HG3.out
    rw [hX3] at hg
    rw [Gd_zero HSZ.out]
    exact own_of hg HXE.out HXL.out (by omega)
  have hK : Kept [] w1 w3 := ⟨hB3.os.trans hK2.os, hB3.tape.trans hK2.tape, hB3.output.trans hK2.output, Nat.le_trans hK2.size hB3.size, fun k hk _ => (hB3.block k hk).trans (hK2.block k hk (by simp))⟩
  clear hX3 HG3 hB3 HA2 HCL HCU HXE HXL HX1 HR1 hK2 q2 hlt2 hr1
  go_loopw [37] (fun i wr => ∃ k : Nat, k ≤ n3 ∧ i = .int .i64 k ∧ Own 3 .i64 wr w1.heap.size (.slice (some ⟨w1.heap.size, 0, none⟩) n1 n1) n1 (Gd ofs size xs k) ∧ Kept [] w1 wr) (fun i _ => n3 - (intOf i).toNat)
  case atStart => exact ⟨0, Nat.zero_le _, rfl, hA, hK⟩
  case round =>
    clear hA hK q0
    obtain ⟨k, hk, rfl, hown, hkept⟩ := hrel
    have q0 := (h.kept hkept).1
    by_cases hlt : k < n3
    · have hk2 : k < xs.length := by rw [HL3.out]; exact hlt
      obtain ⟨xn, y, hx, hxl, hof, hy⟩ := nodesB_at HN.out hk2
      obtain ⟨b2, off2, hv2, hcell2⟩ := (hr3.kept hkept).at (by omega)
      simp only [Option.some.injEq] at hv2
      subst hv2
      obtain ⟨b0, off0, hv0, hcell0⟩ := (hr0.kept hkept).at (by omega)
      simp only [Option.some.injEq] at hv0
      subst hv0
      have e2 := hcell2 k hk2
      rw [hx] at e2
      have e0 := hcell0 xn hxl
      rw [hof] at e0
      have hys : y < size.length := by rw [HL1.out]; exact hy
      have ei := hown.cell hy
      have fi := hown.fr y
      have ST := hown.store y (wrap64 ((Gd ofs size xs k).getD y 0 - 1))
      rw [Gd_step hk2 hx hof hys] at ST
      have K2 := hkept.trans (S := []) ST.2 (by intro j hj hj2; simp at hj; omega)
      have HST : Hid (Own 3 .i64 (wr.setCell ⟨w1.heap.size, y, none⟩ (.int .i64 (wrap64 ((Gd ofs size xs k).getD y 0 - 1)))) w1.heap.size (.slice (some ⟨w1.heap.size, 0, none⟩) n1 n1) n1 (Gd ofs size xs (k + 1)) ∧ Kept [] w1 (wr.setCell ⟨w1.heap.size, y, none⟩ (.int .i64 (wrap64 ((Gd ofs size xs k).getD y 0 - 1))))) := ⟨ST.1, K2⟩
      rw [HL0.out] at hxl
      clear ST K2 hown hr3 hr0 hcell0 hcell2 hx hof hk2 hys
      generalize (Gd ofs size xs k).getD y 0 = vv at *
      go_wp2
      go_roundw
      case rel => exact ⟨k + 1, by omega, by go_num, HST.out.1, HST.out.2⟩
      case measure => simp [intOf]; omega
    · obtain rfl : k = n3 := by omega
      go_wp2
      go_ret
      exact ⟨rfl, hown, hkept⟩

end Go.Proofs.Qxb6601940a
