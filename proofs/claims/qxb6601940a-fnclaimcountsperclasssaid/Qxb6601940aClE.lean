import Derived.Test.Qxb6601940aClD
namespace Go.Proofs.Qxb6601940a
open Go.RowKit
set_option linter.unusedVariables false

set_option maxHeartbeats 2000000 in
set_option maxRecDepth 100000 in
theorem top5A (n0 c0 n1 c1 n2 c2 n3 c3 : Nat) (ofs size ids gone : List Int) (a0 : Option Addr) (a1 : Option Addr) (a3 : Option Addr) (w : World)
    (hl0 : ofs.length = n0) (hl1 : size.length = n1) (hl2 : ids.length = n2) (hl3 : gone.length = n3) (hn0 : n0 ≤ 65536) (hn1 : n1 ≤ 4096) (hn2 : n2 ≤ 4096) (hn3 : n3 ≤ 4096) (hs : 4 * n0 + 8 * (n1 + n2 + n3) ≤ 1048576)
    (hr0 : Rd .i32 w a0 ofs) (hc0 : a0 = none → c0 = 0) (hr1 : Rd .i64 w a1 size) (hc1 : a1 = none → c1 = 0) (hr2 : Rd .i64 w (none : Option Addr) ids) (hc2 : (none : Option Addr) = none → c2 = 0) (hr3 : Rd .i64 w a3 gone) (hc3 : a3 = none → c3 = 0) 
    (hof : ∀ j, -2147483648 ≤ ofs.getD j 0 ∧ ofs.getD j 0 ≤ 2147483647) (hsz : ∀ z ∈ size, -9223372036854775808 ≤ z ∧ z ≤ 9223372036854775807) (hdom : domB ofs a0 (none : Option Addr) a3 n1 ids gone = true) :
    Calls Try.prog 5 #[.slice a0 n0 c0, .slice a1 n1 c1, .slice (none : Option Addr) n2 c2, .slice a3 n3 c3] w fun e w' => e = .returned (.bool true) ∧ Below w.heap.size w w' := by
  have q35 : ∀ (w : World) (a : Option Addr) (n c n' c' : Nat), (binOp .eql 35 (.slice a n c) (.slice none n' c')).run Try.prog w = .ok (.bool a.isNone) w := fun w a n c n' c' => Lib.run_eql_slice_nil w _ _ a n c n' c' Try.underlying35
  have q34 : ∀ (w : World) (a : Option Addr) (n c n' c' : Nat), (binOp .eql 34 (.slice a n c) (.slice none n' c')).run Try.prog w = .ok (.bool a.isNone) w := fun w a n c n' c' => Lib.run_eql_slice_nil w _ _ a n c n' c' Try.underlying34
  have q35n : ∀ (w : World) (a : Option Addr) (n c n' c' : Nat), (binOp .neq 35 (.slice a n c) (.slice none n' c')).run Try.prog w = .ok (.bool (!a.isNone)) w := fun w a n c n' c' => run_neq_slice_nil_any w _ _ a n c n' c' Try.underlying35
  obtain rfl : ids = [] := hr2.1 rfl
  obtain rfl : n2 = 0 := by simpa using hl2.symm
  obtain rfl : c2 = 0 := hc2 rfl
  have HL : Hid ((ofs : List Int).length = n0 ∧ (size : List Int).length = n1 ∧ ([] : List Int).length = 0 ∧ (gone : List Int).length = n3) := ⟨hl0, hl1, hl2, hl3⟩
  have HR : Hid (Rd .i32 w a0 ofs ∧ Rd .i64 w a1 size ∧ Rd .i64 w (none : Option Addr) [] ∧ Rd .i64 w a3 gone) := ⟨hr0, hr1, hr2, hr3⟩
  have HC : Hid ((a0 = none → c0 = 0) ∧ (a1 = none → c1 = 0) ∧ ((none : Option Addr) = none → 0 = 0) ∧ (a3 = none → c3 = 0)) := ⟨hc0, hc1, hc2, hc3⟩
  have HB : Hid ((∀ j, -2147483648 ≤ (ofs : List Int).getD j 0 ∧ (ofs : List Int).getD j 0 ≤ 2147483647) ∧ ∀ z ∈ size, -9223372036854775808 ≤ z ∧ z ≤ 9223372036854775807) := ⟨hof, hsz⟩
  have HD : Hid (domB ofs a0 (none : Option Addr) a3 n1 [] gone = true) := hdom
  have hb : n0 + n1 + 0 + n3 ≤ 1048576 := by omega
  clear hl0 hl1 hl2 hl3 hr0 hr1 hr2 hr3 hc0 hc1 hc2 hc3 hof hsz hdom
  go_enter Try.func5, Try.ntmps5
  go_wp2_with fail
  refine (bytes21_yes a0 a1 (none : Option Addr) a3 n0 c0 n1 c1 0 0 n3 c3 _ (by omega)).mono ?_
  rintro e w1 ⟨rfl, rfl⟩
  go_wp2_with fail
  refine (dom_any a0 n0 c0 ofs a1 n1 c1 (none : Option Addr) 0 0 [] a3 n3 c3 gone _ HL.out.1 HL.out.2.2.1 HL.out.2.2.2 (by omega) (by omega) (by omega) (by omega) HR.out.1 HR.out.2.2.1 HR.out.2.2.2 HB.out.1).mono ?_
  rintro e w2 ⟨rfl, rfl⟩
  rw [HD.out]
  have K0 : Kept [] w2 w2 := Kept.refl _ _
  have s0 : w2.heap.size ≤ w2.heap.size := Nat.le_refl _
  go_wp2_with fail
  refine (clone32_any a0 n0 c0 ofs _ w2.heap.size HL.out.1 (by omega) s0 ((HR.out.1).kept K0) HC.out.1).mono ?_
  rintro e y0 ⟨b0, d0, rfl, o0, k0, _, m0⟩
  have K1 := K0.next k0
  have s1 : w2.heap.size ≤ y0.heap.size := K1.size
  go_wp2_with fail
  refine (clone_any a1 n1 c1 size _ w2.heap.size HL.out.2.1 (by omega) s1 ((HR.out.2.1).kept K1) HC.out.2.1).mono ?_
  rintro e y1 ⟨b1, d1, rfl, o1, k1, _, m1⟩
  have K2 := K1.next k1
  have s2 : w2.heap.size ≤ y1.heap.size := K2.size
  go_wp2_with fail
  refine (clone_nil _).mono ?_
  rintro e y2 ⟨rfl, hy2⟩
  have k2 : Kept [] y1 y2 := by rw [hy2]; exact Kept.refl _ _
  clear hy2
  have K3 := K2.next k2
  have s3 : w2.heap.size ≤ y2.heap.size := K3.size
  go_wp2_with fail
  refine (clone_any a3 n3 c3 gone _ w2.heap.size HL.out.2.2.2 (by omega) s3 ((HR.out.2.2.2).kept K3) HC.out.2.2.2).mono ?_
  rintro e y3 ⟨b3, d3, rfl, o3, k3, _, m3⟩
  have K4 := K3.next k3
  have s4 : w2.heap.size ≤ y3.heap.size := K4.size
  clear s0 s1 s2 s3 K0 K1 K2 K3 o0 o1 o3 k0 k1 k2 k3
  go_wp2_with fail
  refine (zzc_nil (.slice b0 n0 d0) (.slice b1 n1 d1) (.slice b3 n3 d3) _ ⟨_, _, _, rfl⟩ ⟨_, _, _, rfl⟩).mono ?_
  rintro e z1 ⟨rfl, kz⟩
  go_wp2
  go_ret
  exact ⟨rfl, (K4.next kz).below (Nat.le_refl _) (by simp)⟩

set_option maxHeartbeats 2000000 in
set_option maxRecDepth 100000 in
theorem top5B (n0 c0 n1 c1 n2 c2 n3 c3 : Nat) (ofs size ids gone : List Int) (a1 : Option Addr) (x2 : Addr) (a3 : Option Addr) (w : World)
    (hl0 : ofs.length = n0) (hl1 : size.length = n1) (hl2 : ids.length = n2) (hl3 : gone.length = n3) (hn0 : n0 ≤ 65536) (hn1 : n1 ≤ 4096) (hn2 : n2 ≤ 4096) (hn3 : n3 ≤ 4096) (hs : 4 * n0 + 8 * (n1 + n2 + n3) ≤ 1048576)
    (hr0 : Rd .i32 w (none : Option Addr) ofs) (hc0 : (none : Option Addr) = none → c0 = 0) (hr1 : Rd .i64 w a1 size) (hc1 : a1 = none → c1 = 0) (hr2 : Rd .i64 w (some x2) ids) (hc2 : (some x2) = none → c2 = 0) (hr3 : Rd .i64 w a3 gone) (hc3 : a3 = none → c3 = 0) 
    (hof : ∀ j, -2147483648 ≤ ofs.getD j 0 ∧ ofs.getD j 0 ≤ 2147483647) (hsz : ∀ z ∈ size, -9223372036854775808 ≤ z ∧ z ≤ 9223372036854775807) (hdom : domB ofs (none : Option Addr) (some x2) a3 n1 ids gone = true) :
    Calls Try.prog 5 #[.slice (none : Option Addr) n0 c0, .slice a1 n1 c1, .slice (some x2) n2 c2, .slice a3 n3 c3] w fun e w' => e = .returned (.bool true) ∧ Below w.heap.size w w' := by
  have q35 : ∀ (w : World) (a : Option Addr) (n c n' c' : Nat), (binOp .eql 35 (.slice a n c) (.slice none n' c')).run Try.prog w = .ok (.bool a.isNone) w := fun w a n c n' c' => Lib.run_eql_slice_nil w _ _ a n c n' c' Try.underlying35
  have q34 : ∀ (w : World) (a : Option Addr) (n c n' c' : Nat), (binOp .eql 34 (.slice a n c) (.slice none n' c')).run Try.prog w = .ok (.bool a.isNone) w := fun w a n c n' c' => Lib.run_eql_slice_nil w _ _ a n c n' c' Try.underlying34
  have q35n : ∀ (w : World) (a : Option Addr) (n c n' c' : Nat), (binOp .neq 35 (.slice a n c) (.slice none n' c')).run Try.prog w = .ok (.bool (!a.isNone)) w := fun w a n c n' c' => run_neq_slice_nil_any w _ _ a n c n' c' Try.underlying35
  obtain rfl : ofs = [] := hr0.1 rfl
  obtain rfl : n0 = 0 := by simpa using hl0.symm
  obtain rfl : c0 = 0 := hc0 rfl
  have HL : Hid (([] : List Int).length = 0 ∧ (size : List Int).length = n1 ∧ (ids : List Int).length = n2 ∧ (gone : List Int).length = n3) := ⟨hl0, hl1, hl2, hl3⟩
  have HR : Hid (Rd .i32 w (none : Option Addr) [] ∧ Rd .i64 w a1 size ∧ Rd .i64 w (some x2) ids ∧ Rd .i64 w a3 gone) := ⟨hr0, hr1, hr2, hr3⟩
  have HC : Hid (((none : Option Addr) = none → 0 = 0) ∧ (a1 = none → c1 = 0) ∧ ((some x2) = none → c2 = 0) ∧ (a3 = none → c3 = 0)) := ⟨hc0, hc1, hc2, hc3⟩
  have HB : Hid ((∀ j, -2147483648 ≤ ([] : List Int).getD j 0 ∧ ([] : List Int).getD j 0 ≤ 2147483647) ∧ ∀ z ∈ size, -9223372036854775808 ≤ z ∧ z ≤ 9223372036854775807) := ⟨hof, hsz⟩
  have HD : Hid (domB [] (none : Option Addr) (some x2) a3 n1 ids gone = true) := hdom
  have hb : 0 + n1 + n2 + n3 ≤ 1048576 := by omega
  clear hl0 hl1 hl2 hl3 hr0 hr1 hr2 hr3 hc0 hc1 hc2 hc3 hof hsz hdom
  go_enter Try.func5, Try.ntmps5
  go_wp2_with fail
  refine (bytes21_yes (none : Option Addr) a1 (some x2) a3 0 0 n1 c1 n2 c2 n3 c3 _ (by omega)).mono ?_
  rintro e w1 ⟨rfl, rfl⟩
  go_wp2_with fail
  refine (dom_any (none : Option Addr) 0 0 [] a1 n1 c1 (some x2) n2 c2 ids a3 n3 c3 gone _ HL.out.1 HL.out.2.2.1 HL.out.2.2.2 (by omega) (by omega) (by omega) (by omega) HR.out.1 HR.out.2.2.1 HR.out.2.2.2 HB.out.1).mono ?_
  rintro e w2 ⟨rfl, rfl⟩
  rw [HD.out]
  have K0 : Kept [] w2 w2 := Kept.refl _ _
  have s0 : w2.heap.size ≤ w2.heap.size := Nat.le_refl _
  go_wp2_with fail
  refine (clone32_nil _).mono ?_
  rintro e y0 ⟨rfl, hy0⟩
  have k0 : Kept [] w2 y0 := by rw [hy0]; exact Kept.refl _ _
  clear hy0
  have K1 := K0.next k0
  have s1 : w2.heap.size ≤ y0.heap.size := K1.size
  go_wp2_with fail
  refine (clone_any a1 n1 c1 size _ w2.heap.size HL.out.2.1 (by omega) s1 ((HR.out.2.1).kept K1) HC.out.2.1).mono ?_
  rintro e y1 ⟨b1, d1, rfl, o1, k1, _, m1⟩
  have K2 := K1.next k1
  have s2 : w2.heap.size ≤ y1.heap.size := K2.size
  go_wp2_with fail
  refine (clone_some x2 n2 ids c2 _ w2.heap.size HL.out.2.2.1 (by omega) s2 (fun j hj => ((HR.out.2.2.1).kept K2).2 x2 rfl j (by rw [HL.out.2.2.1]; exact hj))).mono ?_
  rintro e y2 ⟨rfl, o2, k2⟩
  have K3 := K2.next k2
  have s3 : w2.heap.size ≤ y2.heap.size := K3.size
  go_wp2_with fail
  refine (clone_any a3 n3 c3 gone _ w2.heap.size HL.out.2.2.2 (by omega) s3 ((HR.out.2.2.2).kept K3) HC.out.2.2.2).mono ?_
  rintro e y3 ⟨b3, d3, rfl, o3, k3, _, m3⟩
  have K4 := K3.next k3
  have s4 : w2.heap.size ≤ y3.heap.size := K4.size
  clear s0 s1 s2 s3 K0 K1 K2 K3 o1 o2 o3 k0 k1 k2 k3
  generalize hg2 : y1.heap.size = g2 at *
  clear hg2
  go_wp2_with fail
  refine (zzc_ofnil b1 n1 d1 ⟨g2, 0, none⟩ n2 n2 (.slice b3 n3 d3) _).mono ?_
  rintro e z1 ⟨g, rfl, hc, kz⟩
  go_wp2
  go_ret
  exact ⟨rfl, (K4.next kz).below (Nat.le_refl _) (by simp)⟩

set_option maxHeartbeats 2000000 in
set_option maxRecDepth 100000 in
theorem top5C (n0 c0 n1 c1 n2 c2 n3 c3 : Nat) (ofs size ids gone : List Int) (x0 : Addr) (a1 : Option Addr) (x2 : Addr) (x3 : Addr) (w : World)
    (hl0 : ofs.length = n0) (hl1 : size.length = n1) (hl2 : ids.length = n2) (hl3 : gone.length = n3) (hn0 : n0 ≤ 65536) (hn1 : n1 ≤ 4096) (hn2 : n2 ≤ 4096) (hn3 : n3 ≤ 4096) (hs : 4 * n0 + 8 * (n1 + n2 + n3) ≤ 1048576)
    (hr0 : Rd .i32 w (some x0) ofs) (hc0 : (some x0) = none → c0 = 0) (hr1 : Rd .i64 w a1 size) (hc1 : a1 = none → c1 = 0) (hr2 : Rd .i64 w (some x2) ids) (hc2 : (some x2) = none → c2 = 0) (hr3 : Rd .i64 w (some x3) gone) (hc3 : (some x3) = none → c3 = 0) 
    (hof : ∀ j, -2147483648 ≤ ofs.getD j 0 ∧ ofs.getD j 0 ≤ 2147483647) (hsz : ∀ z ∈ size, -9223372036854775808 ≤ z ∧ z ≤ 9223372036854775807) (hdom : domB ofs (some x0) (some x2) (some x3) n1 ids gone = true) :
    Calls Try.prog 5 #[.slice (some x0) n0 c0, .slice a1 n1 c1, .slice (some x2) n2 c2, .slice (some x3) n3 c3] w fun e w' => e = .returned (.bool true) ∧ Below w.heap.size w w' := by
  have q35 : ∀ (w : World) (a : Option Addr) (n c n' c' : Nat), (binOp .eql 35 (.slice a n c) (.slice none n' c')).run Try.prog w = .ok (.bool a.isNone) w := fun w a n c n' c' => Lib.run_eql_slice_nil w _ _ a n c n' c' Try.underlying35
  have q34 : ∀ (w : World) (a : Option Addr) (n c n' c' : Nat), (binOp .eql 34 (.slice a n c) (.slice none n' c')).run Try.prog w = .ok (.bool a.isNone) w := fun w a n c n' c' => Lib.run_eql_slice_nil w _ _ a n c n' c' Try.underlying34
  have q35n : ∀ (w : World) (a : Option Addr) (n c n' c' : Nat), (binOp .neq 35 (.slice a n c) (.slice none n' c')).run Try.prog w = .ok (.bool (!a.isNone)) w := fun w a n c n' c' => run_neq_slice_nil_any w _ _ a n c n' c' Try.underlying35
  have HL : Hid ((ofs : List Int).length = n0 ∧ (size : List Int).length = n1 ∧ (ids : List Int).length = n2 ∧ (gone : List Int).length = n3) := ⟨hl0, hl1, hl2, hl3⟩
  have HR : Hid (Rd .i32 w (some x0) ofs ∧ Rd .i64 w a1 size ∧ Rd .i64 w (some x2) ids ∧ Rd .i64 w (some x3) gone) := ⟨hr0, hr1, hr2, hr3⟩
  have HC : Hid (((some x0) = none → c0 = 0) ∧ (a1 = none → c1 = 0) ∧ ((some x2) = none → c2 = 0) ∧ ((some x3) = none → c3 = 0)) := ⟨hc0, hc1, hc2, hc3⟩
  have HB : Hid ((∀ j, -2147483648 ≤ (ofs : List Int).getD j 0 ∧ (ofs : List Int).getD j 0 ≤ 2147483647) ∧ ∀ z ∈ size, -9223372036854775808 ≤ z ∧ z ≤ 9223372036854775807) := ⟨hof, hsz⟩
  have HD : Hid (domB ofs (some x0) (some x2) (some x3) n1 ids gone = true) := hdom
  have hb : n0 + n1 + n2 + n3 ≤ 1048576 := by omega
  clear hl0 hl1 hl2 hl3 hr0 hr1 hr2 hr3 hc0 hc1 hc2 hc3 hof hsz hdom
  go_enter Try.func5, Try.ntmps5
  go_wp2_with fail
  refine (bytes21_yes (some x0) a1 (some x2) (some x3) n0 c0 n1 c1 n2 c2 n3 c3 _ (by omega)).mono ?_
  rintro e w1 ⟨rfl, rfl⟩
  go_wp2_with fail
  refine (dom_any (some x0) n0 c0 ofs a1 n1 c1 (some x2) n2 c2 ids (some x3) n3 c3 gone _ HL.out.1 HL.out.2.2.1 HL.out.2.2.2 (by omega) (by omega) (by omega) (by omega) HR.out.1 HR.out.2.2.1 HR.out.2.2.2 HB.out.1).mono ?_
  rintro e w2 ⟨rfl, rfl⟩
  rw [HD.out]
  have K0 : Kept [] w2 w2 := Kept.refl _ _
  have s0 : w2.heap.size ≤ w2.heap.size := Nat.le_refl _
  go_wp2_with fail
  refine (clone32_some x0 n0 ofs c0 _ w2.heap.size HL.out.1 (by omega) s0 (fun j hj => ((HR.out.1).kept K0).2 x0 rfl j (by rw [HL.out.1]; exact hj))).mono ?_
  rintro e y0 ⟨rfl, o0, k0⟩
  have K1 := K0.next k0
  have s1 : w2.heap.size ≤ y0.heap.size := K1.size
  go_wp2_with fail
  refine (clone_any a1 n1 c1 size _ w2.heap.size HL.out.2.1 (by omega) s1 ((HR.out.2.1).kept K1) HC.out.2.1).mono ?_
  rintro e y1 ⟨b1, d1, rfl, o1, k1, _, m1⟩
  have K2 := K1.next k1
  have s2 : w2.heap.size ≤ y1.heap.size := K2.size
  go_wp2_with fail
  refine (clone_some x2 n2 ids c2 _ w2.heap.size HL.out.2.2.1 (by omega) s2 (fun j hj => ((HR.out.2.2.1).kept K2).2 x2 rfl j (by rw [HL.out.2.2.1]; exact hj))).mono ?_
  rintro e y2 ⟨rfl, o2, k2⟩
  have K3 := K2.next k2
  have s3 : w2.heap.size ≤ y2.heap.size := K3.size
  go_wp2_with fail
  refine (clone_some x3 n3 gone c3 _ w2.heap.size HL.out.2.2.2 (by omega) s3 (fun j hj => ((HR.out.2.2.2).kept K3).2 x3 rfl j (by rw [HL.out.2.2.2]; exact hj))).mono ?_
  rintro e y3 ⟨rfl, o3, k3⟩
  have K4 := K3.next k3
  have s4 : w2.heap.size ≤ y3.heap.size := K4.size
  have HR0 : Rd .i32 y3 (some ⟨w2.heap.size, 0, none⟩) ofs := ((o0.rd.kept k1).kept k2).kept k3
  have HR1 : Rd .i64 y3 b1 size := (o1.rd.kept k2).kept k3
  have HR3 : Rd .i64 y3 (some ⟨y2.heap.size, 0, none⟩) gone := o3.rd
  have HN : Hid (nodesB ofs n1 gone = true) := HD.out
  have s5 : y3.heap.size ≤ y3.heap.size := Nat.le_refl _
  clear s0 s1 s2 s3 s4 K0 K1 K2 K3 o0 o1 o2 o3 k0 k1 k2 k3 m1
  generalize hg0 : w2.heap.size = g0 at HR0 ⊢
  generalize hg2 : y1.heap.size = g2 at  ⊢
  generalize hg3 : y2.heap.size = g3 at HR3 ⊢
  go_wp2_with fail
  refine (zzc_gone ⟨g0, 0, none⟩ n0 n0 ofs b1 n1 d1 size ⟨g2, 0, none⟩ n2 n2 ⟨g3, 0, none⟩ n3 n3 gone _ HL.out.1 HL.out.2.1 HL.out.2.2.2 (by omega) (by omega) (by omega) HR0 HR1 HR3 HN.out HB.out.2).mono ?_
  rintro e z1 ⟨g, rfl, og, kz⟩
  have KZ : Kept [] w2 z1 := K4.next kz
  have R0 := HR0.kept kz
  have R1 := HR1.kept kz
  have R3 := HR3.kept kz
  clear HR0 HR1 HR3 K4 kz
  have hne : ((n1 : Int) != (n1 : Int)) = false := by simp
  go_wp2
  go_loopw [10] (fun i wr => ∃ k : Nat, k ≤ n1 ∧ i = .int .i64 k ∧ Kept [] z1 wr) (fun i _ => n1 - (intOf i).toNat)
  case atStart => exact ⟨0, Nat.zero_le _, rfl, Kept.refl _ _⟩
  case round =>
    obtain ⟨k, hk, rfl, hkept⟩ := hrel
    by_cases hlt : k < n1
    · have hk2 : k < size.length := by rw [HL.out.2.1]; exact hlt
      obtain ⟨b, off, rfl, hcell⟩ := (R1.kept hkept).at (by omega)
      have c1 := hcell k hk2
      have c2 := (og.kept0 hkept).cell hlt
      have Q0 := R0.kept hkept
      have Q3 := R3.kept hkept
      have b1' : (k : Int) < (n1 : Int) := by omega
      have b3' : (0 : Int) ≤ (k : Int) := by omega
      have e2 : (Gd ofs size gone n3).getD k 0 = wrap64 (size.getD k 0 - (cnt ofs gone k : Int)) := by rw [Gd_at hk2, show gone.take n3 = gone from by rw [← HL.out.2.2.2]; exact List.take_length]
      rw [e2] at c2
      generalize size.getD k 0 = z at *
      have hcn := cnt_le ofs gone k
      have HCN : Hid (∀ W : World, Kept [] z1 W → Calls Try.prog 26 #[.slice (some ⟨g0, 0, none⟩) n0 n0, .slice (some ⟨g3, 0, none⟩) n3 n3, .int .i64 k] W fun e w' => e = .returned (.int .i64 (cnt ofs gone k : Int)) ∧ w' = W) := fun W hW => inClass_any _ n0 n0 ofs _ n3 n3 gone n1 k W HL.out.1 HL.out.2.2.2 (by omega) (by omega) (by omega) (R0.kept hW) (R3.kept hW) HN.out (by omega)
      rw [HL.out.2.2.2] at hcn
      generalize cnt ofs gone k = cn at *
      clear hcell hk2 e2 Q0 Q3
      have hw : IntKind.i64.wrap (z - (cn : Int)) = wrap64 (z - (cn : Int)) := by simp [IntKind.wrap_i64, wrap64]
      generalize wrap64 (z - (cn : Int)) = vg at *
      go_wp2
      go_quiet ((go_at_call 26; exact Calls.quiet_of_same (HCN.out _ (hkept.next (Kept.drewN _ _)))))
      go_wp2
      go_roundw
      case rel => exact ⟨k + 1, by omega, by go_num, hkept.next (Kept.drewN _ _)⟩
      case measure => simp [intOf]; omega
    · obtain rfl : k = n1 := by omega
      go_wp2
      go_ret
      exact ⟨rfl, (KZ.next hkept).below (by omega) (by simp)⟩

set_option maxHeartbeats 2000000 in
set_option maxRecDepth 100000 in
theorem top5D (n0 c0 n1 c1 n2 c2 n3 c3 : Nat) (ofs size ids gone : List Int) (x0 : Addr) (a1 : Option Addr) (x2 : Addr) (w : World)
    (hl0 : ofs.length = n0) (hl1 : size.length = n1) (hl2 : ids.length = n2) (hl3 : gone.length = n3) (hn0 : n0 ≤ 65536) (hn1 : n1 ≤ 4096) (hn2 : n2 ≤ 4096) (hn3 : n3 ≤ 4096) (hs : 4 * n0 + 8 * (n1 + n2 + n3) ≤ 1048576)
    (hr0 : Rd .i32 w (some x0) ofs) (hc0 : (some x0) = none → c0 = 0) (hr1 : Rd .i64 w a1 size) (hc1 : a1 = none → c1 = 0) (hr2 : Rd .i64 w (some x2) ids) (hc2 : (some x2) = none → c2 = 0) (hr3 : Rd .i64 w (none : Option Addr) gone) (hc3 : (none : Option Addr) = none → c3 = 0) 
    (hof : ∀ j, -2147483648 ≤ ofs.getD j 0 ∧ ofs.getD j 0 ≤ 2147483647) (hsz : ∀ z ∈ size, -9223372036854775808 ≤ z ∧ z ≤ 9223372036854775807) (hdom : domB ofs (some x0) (some x2) (none : Option Addr) n1 ids gone = true) :
    Calls Try.prog 5 #[.slice (some x0) n0 c0, .slice a1 n1 c1, .slice (some x2) n2 c2, .slice (none : Option Addr) n3 c3] w fun e w' => e = .returned (.bool true) ∧ Below w.heap.size w w' := by
  have q35 : ∀ (w : World) (a : Option Addr) (n c n' c' : Nat), (binOp .eql 35 (.slice a n c) (.slice none n' c')).run Try.prog w = .ok (.bool a.isNone) w := fun w a n c n' c' => Lib.run_eql_slice_nil w _ _ a n c n' c' Try.underlying35
  have q34 : ∀ (w : World) (a : Option Addr) (n c n' c' : Nat), (binOp .eql 34 (.slice a n c) (.slice none n' c')).run Try.prog w = .ok (.bool a.isNone) w := fun w a n c n' c' => Lib.run_eql_slice_nil w _ _ a n c n' c' Try.underlying34
  have q35n : ∀ (w : World) (a : Option Addr) (n c n' c' : Nat), (binOp .neq 35 (.slice a n c) (.slice none n' c')).run Try.prog w = .ok (.bool (!a.isNone)) w := fun w a n c n' c' => run_neq_slice_nil_any w _ _ a n c n' c' Try.underlying35
  obtain rfl : gone = [] := hr3.1 rfl
  obtain rfl : n3 = 0 := by simpa using hl3.symm
  obtain rfl : c3 = 0 := hc3 rfl
  have HL : Hid ((ofs : List Int).length = n0 ∧ (size : List Int).length = n1 ∧ (ids : List Int).length = n2 ∧ ([] : List Int).length = 0) := ⟨hl0, hl1, hl2, hl3⟩
  have HR : Hid (Rd .i32 w (some x0) ofs ∧ Rd .i64 w a1 size ∧ Rd .i64 w (some x2) ids ∧ Rd .i64 w (none : Option Addr) []) := ⟨hr0, hr1, hr2, hr3⟩
  have HC : Hid (((some x0) = none → c0 = 0) ∧ (a1 = none → c1 = 0) ∧ ((some x2) = none → c2 = 0) ∧ ((none : Option Addr) = none → 0 = 0)) := ⟨hc0, hc1, hc2, hc3⟩
  have HB : Hid ((∀ j, -2147483648 ≤ (ofs : List Int).getD j 0 ∧ (ofs : List Int).getD j 0 ≤ 2147483647) ∧ ∀ z ∈ size, -9223372036854775808 ≤ z ∧ z ≤ 9223372036854775807) := ⟨hof, hsz⟩
  have HD : Hid (domB ofs (some x0) (some x2) (none : Option Addr) n1 ids [] = true) := hdom
  have hb : n0 + n1 + n2 + 0 ≤ 1048576 := by omega
  clear hl0 hl1 hl2 hl3 hr0 hr1 hr2 hr3 hc0 hc1 hc2 hc3 hof hsz hdom
  go_enter Try.func5, Try.ntmps5
  go_wp2_with fail
  refine (bytes21_yes (some x0) a1 (some x2) (none : Option Addr) n0 c0 n1 c1 n2 c2 0 0 _ (by omega)).mono ?_
  rintro e w1 ⟨rfl, rfl⟩
  go_wp2_with fail
  refine (dom_any (some x0) n0 c0 ofs a1 n1 c1 (some x2) n2 c2 ids (none : Option Addr) 0 0 [] _ HL.out.1 HL.out.2.2.1 HL.out.2.2.2 (by omega) (by omega) (by omega) (by omega) HR.out.1 HR.out.2.2.1 HR.out.2.2.2 HB.out.1).mono ?_
  rintro e w2 ⟨rfl, rfl⟩
  rw [HD.out]
  have K0 : Kept [] w2 w2 := Kept.refl _ _
  have s0 : w2.heap.size ≤ w2.heap.size := Nat.le_refl _
  go_wp2_with fail
  refine (clone32_some x0 n0 ofs c0 _ w2.heap.size HL.out.1 (by omega) s0 (fun j hj => ((HR.out.1).kept K0).2 x0 rfl j (by rw [HL.out.1]; exact hj))).mono ?_
  rintro e y0 ⟨rfl, o0, k0⟩
  have K1 := K0.next k0
  have s1 : w2.heap.size ≤ y0.heap.size := K1.size
  go_wp2_with fail
  refine (clone_any a1 n1 c1 size _ w2.heap.size HL.out.2.1 (by omega) s1 ((HR.out.2.1).kept K1) HC.out.2.1).mono ?_
  rintro e y1 ⟨b1, d1, rfl, o1, k1, _, m1⟩
  have K2 := K1.next k1
  have s2 : w2.heap.size ≤ y1.heap.size := K2.size
  go_wp2_with fail
  refine (clone_some x2 n2 ids c2 _ w2.heap.size HL.out.2.2.1 (by omega) s2 (fun j hj => ((HR.out.2.2.1).kept K2).2 x2 rfl j (by rw [HL.out.2.2.1]; exact hj))).mono ?_
  rintro e y2 ⟨rfl, o2, k2⟩
  have K3 := K2.next k2
  have s3 : w2.heap.size ≤ y2.heap.size := K3.size
  go_wp2_with fail
  refine (clone_nil _).mono ?_
  rintro e y3 ⟨rfl, hy3⟩
  have k3 : Kept [] y2 y3 := by rw [hy3]; exact Kept.refl _ _
  clear hy3
  have K4 := K3.next k3
  have s4 : w2.heap.size ≤ y3.heap.size := K4.size
  have HR0 : Rd .i32 y3 (some ⟨w2.heap.size, 0, none⟩) ofs := ((o0.rd.kept k1).kept k2).kept k3
  have HR1 : Rd .i64 y3 b1 size := (o1.rd.kept k2).kept k3
  have HR2 : Rd .i64 y3 (some ⟨y1.heap.size, 0, none⟩) ids := o2.rd.kept k3
  have HN : Hid (nodesB ofs n1 ids = true) := HD.out
  have s5 : y3.heap.size ≤ y3.heap.size := Nat.le_refl _
  clear s0 s1 s2 s3 s4 K0 K1 K2 K3 o0 o1 o2  k0 k1 k2 k3 m1
  generalize hg0 : w2.heap.size = g0 at HR0 ⊢
  generalize hg2 : y1.heap.size = g2 at HR2 ⊢
  go_wp2_with fail
  refine (zzc_ids ⟨g0, 0, none⟩ n0 n0 ofs b1 n1 d1 ⟨g2, 0, none⟩ n2 n2 ids _ HL.out.1 HL.out.2.2.1 (by omega) (by omega) (by omega) HR0 HR2 HN.out).mono ?_
  rintro e z1 ⟨g, rfl, og, kz⟩
  have KZ : Kept [] w2 z1 := K4.next kz
  have R0 := HR0.kept kz
  have R1 := HR1.kept kz
  have R3 := HR2.kept kz
  clear HR0 HR1 HR2 K4 kz
  have hne : ((n1 : Int) != (n1 : Int)) = false := by simp
  go_wp2
  go_loopw [10] (fun i wr => ∃ k : Nat, k ≤ n1 ∧ i = .int .i64 k ∧ Kept [] z1 wr) (fun i _ => n1 - (intOf i).toNat)
  case atStart => exact ⟨0, Nat.zero_le _, rfl, Kept.refl _ _⟩
  case round =>
    obtain ⟨k, hk, rfl, hkept⟩ := hrel
    by_cases hlt : k < n1
    · have hk2 : k < size.length := by rw [HL.out.2.1]; exact hlt
      obtain ⟨b, off, rfl, hcell⟩ := (R1.kept hkept).at (by omega)
      have c1 := hcell k hk2
      have c2 := (og.kept0 hkept).cell hlt
      have Q0 := R0.kept hkept
      have Q3 := R3.kept hkept
      have b1' : (k : Int) < (n1 : Int) := by omega
      have b3' : (0 : Int) ≤ (k : Int) := by omega
      have e2 : (Gu ofs n1 ids n2).getD k 0 = (cnt ofs ids k : Int) := by rw [Gu_at hlt, show ids.take n2 = ids from by rw [← HL.out.2.2.1]; exact List.take_length]
      rw [e2] at c2
      have hcn := cnt_le ofs ids k
      have HCN : Hid (∀ W : World, Kept [] z1 W → Calls Try.prog 26 #[.slice (some ⟨g0, 0, none⟩) n0 n0, .slice (some ⟨g2, 0, none⟩) n2 n2, .int .i64 k] W fun e w' => e = .returned (.int .i64 (cnt ofs ids k : Int)) ∧ w' = W) := fun W hW => inClass_any _ n0 n0 ofs _ n2 n2 ids n1 k W HL.out.1 HL.out.2.2.1 (by omega) (by omega) (by omega) (R0.kept hW) (R3.kept hW) HN.out (by omega)
      rw [HL.out.2.2.1] at hcn
      generalize cnt ofs ids k = cn at *
      clear hcell hk2 e2 Q0 Q3
      go_wp2
      go_quiet ((go_at_call 26; exact Calls.quiet_of_same (HCN.out _ (hkept.next (Kept.drewN _ _)))))
      go_wp2
      go_roundw
      case rel => exact ⟨k + 1, by omega, by go_num, hkept.next (Kept.drewN _ _)⟩
      case measure => simp [intOf]; omega
    · obtain rfl : k = n1 := by omega
      go_wp2
      go_ret
      exact ⟨rfl, (KZ.next hkept).below (by omega) (by simp)⟩

end Go.Proofs.Qxb6601940a
