import Derived.Test.Qxb6601940aBytes
import Derived.Test.Qxb6601940aTopC
namespace Go.Proofs.Qxb6601940a
open Go.RowKit
set_option linter.unusedVariables false

set_option maxHeartbeats 4000000 in
set_option maxRecDepth 100000 in
theorem top9_in (a0 a1 a2 a3 a4 a5 : Option Addr) (n0 c0 n1 c1 n2 c2 n3 c3 c4 c5 : Nat) (v u : Nat) (xs1 xs2 xs3 ks js : List Int) (w : World)
    (hl1 : xs1.length = n1) (hl2 : xs2.length = n2) (hl3 : xs3.length = n3)
    (hr0 : Rd .i64 w a0 (List.replicate n0 0)) (hr1 : Rd .i64 w a1 xs1) (hr2 : Rd .i64 w a2 xs2) (hr3 : Rd .i64 w a3 xs3) (hr4 : Rd .i64 w a4 ks) (hr5 : Rd .i64 w a5 js)
    (hc0 : a0 = none → c0 = 0) (hc1 : a1 = none → c1 = 0) (hc2 : a2 = none → c2 = 0) (hc3 : a3 = none → c3 = 0) (hc4 : a4 = none → c4 = 0) (hc5 : a5 = none → c5 = 0)
    (hs : n0 + n1 + n2 + n3 + ks.length + js.length ≤ 131072) (h0 : n0 ≤ 65536) (h1 : n1 ≤ 65536) (h2 : n2 ≤ 65536) (h3 : n3 ≤ 65536) (h4 : ks.length ≤ 65536) (h5 : js.length ≤ 65536) (hv : v ≤ 65536) (hu : u ≤ 65536) (hk : keysB v ks = true) (hj : keysB u js = true) :
    Calls Try.prog 9 #[.slice a0 n0 c0, .slice a1 n1 c1, .slice a2 n2 c2, .slice a3 n3 c3, .slice a4 ks.length c4, .int .i64 v, .slice a5 js.length c5, .int .i64 u] w fun e w' => e = .returned (.bool true) ∧ Below w.heap.size w w' := by
  have HL : Hid (xs1.length = n1 ∧ xs2.length = n2 ∧ xs3.length = n3) := ⟨hl1, hl2, hl3⟩
  have HR : Hid (Rd .i64 w a0 (List.replicate n0 0) ∧ Rd .i64 w a1 xs1 ∧ Rd .i64 w a2 xs2 ∧ Rd .i64 w a3 xs3 ∧ Rd .i64 w a4 ks ∧ Rd .i64 w a5 js) := ⟨hr0, hr1, hr2, hr3, hr4, hr5⟩
  have HC : Hid ((a0 = none → c0 = 0) ∧ (a1 = none → c1 = 0) ∧ (a2 = none → c2 = 0) ∧ (a3 = none → c3 = 0) ∧ (a4 = none → c4 = 0) ∧ (a5 = none → c5 = 0)) := ⟨hc0, hc1, hc2, hc3, hc4, hc5⟩
  have HK : Hid (keysB v ks = true) := hk
  have HJ : Hid (keysB u js = true) := hj
  clear hl1 hl2 hl3 hr0 hr1 hr2 hr3 hr4 hr5 hc0 hc1 hc2 hc3 hc4 hc5 hk hj
  go_enter Try.func9, Try.ntmps9
  go_wp2_with fail
  refine (bytes35_yes a0 a1 a2 a3 a4 a5 n0 c0 n1 c1 n2 c2 n3 c3 ks.length c4 js.length c5 v u _ (by omega)).mono ?_
  rintro e wz ⟨rfl, rfl⟩
  go_wp2_with fail
  refine (allZero_any a0 n0 c0 (List.replicate n0 0) _ (by simp) (by omega) HR.out.1).mono ?_
  rintro e w1 ⟨rfl, rfl⟩
  rw [replicate_allZ]
  go_wp2_with fail
  refine (keysIn_any a4 ks.length c4 ks v _ rfl (by omega) HR.out.2.2.2.2.1).mono ?_
  rintro e w2 ⟨rfl, rfl⟩
  rw [HK.out]
  go_wp2_with fail
  refine (keysIn_any a5 js.length c5 js u _ rfl (by omega) HR.out.2.2.2.2.2).mono ?_
  rintro e w3 ⟨rfl, rfl⟩
  rw [HJ.out]
  go_wp2_with fail
  have R0 : Rows5 3 w3 w3.heap.size [] := Rows5.nil _ _
  have K0 : Kept [] w3 w3 := Kept.refl _ _
  have s0 : w3.heap.size ≤ w3.heap.size := Nat.le_refl _
  refine (clone_any a0 n0 c0 (List.replicate n0 0) _ w3.heap.size (by simp) (by omega) s0 ((HR.out.1).kept K0) HC.out.1).mono ?_
  rintro e x1 ⟨b0, d0, rfl, o0, k0, m0, _⟩
  have R1 := R0.made k0 o0 m0
  have K1 := K0.next k0
  have s1 : w3.heap.size ≤ x1.heap.size := K1.size
  clear R0 K0 s0 m0
  go_wp2_with fail
  refine (clone_any a1 n1 c1 xs1 _ w3.heap.size HL.out.1 (by omega) s1 ((HR.out.2.1).kept K1) HC.out.2.1).mono ?_
  rintro e x2 ⟨b1, d1, rfl, o1, k1, m1, _⟩
  have R2 := R1.made k1 o1 m1
  have K2 := K1.next k1
  have s2 : w3.heap.size ≤ x2.heap.size := K2.size
  clear R1 K1 s1 m1
  go_wp2_with fail
  refine (clone_any a2 n2 c2 xs2 _ w3.heap.size HL.out.2.1 (by omega) s2 ((HR.out.2.2.1).kept K2) HC.out.2.2.1).mono ?_
  rintro e x3 ⟨b2, d2, rfl, o2, k2, m2, _⟩
  have R3 := R2.made k2 o2 m2
  have K3 := K2.next k2
  have s3 : w3.heap.size ≤ x3.heap.size := K3.size
  clear R2 K2 s2 m2
  go_wp2_with fail
  refine (clone_any a3 n3 c3 xs3 _ w3.heap.size HL.out.2.2 (by omega) s3 ((HR.out.2.2.2.1).kept K3) HC.out.2.2.2.1).mono ?_
  rintro e x4 ⟨b3, d3, rfl, o3, k3, m3, _⟩
  have R4 := R3.made k3 o3 m3
  have K4 := K3.next k3
  have s4 : w3.heap.size ≤ x4.heap.size := K4.size
  clear R3 K3 s3 m3
  go_wp2_with fail
  refine (clone_any a4 ks.length c4 ks _ w3.heap.size rfl (by omega) s4 ((HR.out.2.2.2.2.1).kept K4) HC.out.2.2.2.2.1).mono ?_
  rintro e x5 ⟨b4, d4, rfl, o4, k4, m4, _⟩
  have R5 := R4.made k4 o4 m4
  have K5 := K4.next k4
  have s5 : w3.heap.size ≤ x5.heap.size := K5.size
  clear R4 K4 s4 m4
  go_wp2_with fail
  refine (clone_any a5 js.length c5 js _ w3.heap.size rfl (by omega) s5 ((HR.out.2.2.2.2.2).kept K5) HC.out.2.2.2.2.2).mono ?_
  rintro e x6 ⟨b5, d5, rfl, o5, k5, m5, _⟩
  have R6 := R5.made k5 o5 m5
  have K6 := K5.next k5
  have s6 : w3.heap.size ≤ x6.heap.size := K6.size
  clear R5 K5 s5 m5
  go_wp2_with fail
  refine (clone_any b5 js.length d5 js _ w3.heap.size rfl (by omega) s6 o5.rd o5.nilCap).mono ?_
  rintro e x7 ⟨b6, d6, rfl, o6, k6, m6, _⟩
  have R7 : Rows5 3 x7 w3.heap.size (taken b0 n0 d0 (List.replicate n0 0) b1 n1 d1 xs1 b2 n2 d2 xs2 b3 n3 d3 xs3 b4 d4 ks ++ [(.slice b5 js.length d5, js.length, js), (.slice b6 js.length d6, js.length, js)]) := (R6.made k6 o6 m6).perm [6, 5, 4, 3, 2, 1, 0] _ rfl (by decide)
  have K7 := K6.next k6
  have s7 : w3.heap.size ≤ x7.heap.size := K7.size
  clear R6 K6 s6 m6 o0 o1 o2 o3 o4 o5 o6 k0 k1 k2 k3 k4 k5 k6
  have hdk := Pl.length_D ks
  have hdj := Pl.length_D js
  go_wp2_with fail
  obtain ⟨L1, hL1⟩ : ∃ L, L = max n0 v := ⟨_, rfl⟩
  have HL1 : Hid (L1 = max n0 v) := hL1
  have hL12 : L1 ≤ 65536 := by omega
  clear hL1
  refine (zznumber_any b0 n0 d0 b1 n1 d1 b2 n2 d2 b3 n3 d3 b4 d4 ks.length v L1 ks xs1 xs2 xs3 w3.heap.size _ rfl HL1.out hv (by omega) (by omega) s7 (keysB_at HK.out) R7.left).mono ?_
  rintro e x8 ⟨es, fs, ev, fv, ef, ff, ec, fc, rfl, T8⟩
  have TF8 := Turn.frame R7 T8
  have K8 := TF8.keptB R7 K7 rfl
  have s8 := K8.size
  have R8 : Rows5 3 x8 w3.heap.size (taken es L1 fs (List.replicate L1 0) ev (Pl.D ks).length fv (Pl.D ks) ef (Pl.D ks).length ff (Pl.F ks) ec (Pl.D ks).length fc (Pl.C ks) b5 d5 js ++ [(.slice b6 js.length d6, js.length, js)]) := TF8.rows.perm [0, 1, 2, 3, 5, 6] _ rfl (by decide)
  clear T8 TF8 R7 K7 s7
  go_wp2_with fail
  obtain ⟨L2, hL2⟩ : ∃ L, L = max L1 u := ⟨_, rfl⟩
  have HL2 : Hid (L2 = max L1 u) := hL2
  have hL22 : L2 ≤ 65536 := by omega
  clear hL2
  refine (zznumber_any es L1 fs ev (Pl.D ks).length fv ef (Pl.D ks).length ff ec (Pl.D ks).length fc b5 d5 js.length u L2 js (Pl.D ks) (Pl.F ks) (Pl.C ks) w3.heap.size _ rfl HL2.out hu (by omega) (by omega) s8 (keysB_at HJ.out) R8.left).mono ?_
  rintro e x9 ⟨fs2, gs2, fv2, gv2, ff2, gf2, fc2, gc2, rfl, T9⟩
  have TF9 := Turn.frame R8 T9
  have K9 := TF9.keptB R8 K8 rfl
  have s9 := K9.size
  have R9 : Rows5 3 x9 w3.heap.size (taken none 0 0 (List.replicate 0 0) none 0 0 [] none 0 0 [] none 0 0 [] b6 d6 js ++ numbered L2 (.slice fs2 L2 gs2) (.slice fv2 (Pl.D js).length gv2) (.slice ff2 (Pl.D js).length gf2) (.slice fc2 (Pl.D js).length gc2) (.slice b5 js.length d5) js) :=
    (((((TF9.rows.perm [5, 0, 1, 2, 3, 4] _ rfl (by decide) : Rows5 3 x9 w3.heap.size ((.slice b6 js.length d6, js.length, js) :: numbered L2 (.slice fs2 L2 gs2) (.slice fv2 (Pl.D js).length gv2) (.slice ff2 (Pl.D js).length gf2) (.slice fc2 (Pl.D js).length gc2) (.slice b5 js.length d5) js)).consNil).consNil).consNil).consNil)
  clear T9 TF9 R8 K8 s8
  go_wp2_with fail
  refine (zznumber_any none 0 0 none 0 0 none 0 0 none 0 0 b6 d6 js.length u u js [] [] [] w3.heap.size _ rfl (by omega) hu (by omega) (by omega) s9 (keysB_at HJ.out) R9.left).mono ?_
  rintro e xa ⟨hs3, is3, hv3, iv3, hf3, if3, hc3, ic3, rfl, Ta⟩
  have TFa := Turn.frame R9 Ta
  have Ka := TFa.keptB R9 K9 rfl
  have Ra := TFa.rows
  clear Ta TFa R9 K9 s9
  have q1 := (Ra.get (i := 9) rfl).rd
  have q2 := (Ra.get (i := 4) rfl).rd
  have q3 := (Ra.get (i := 6) rfl).rd
  have q4 := (Ra.get (i := 1) rfl).rd
  have q5 := (Ra.get (i := 7) rfl).rd
  have q6 := (Ra.get (i := 2) rfl).rd
  have q7 := (Ra.get (i := 8) rfl).rd
  have q8 := (Ra.get (i := 3) rfl).rd
  have q9 := (Ra.get (i := 5) rfl).rd
  have q0 := (Ra.get (i := 0) rfl).rd
  clear Ra
  go_wp2_with fail
  refine (same_any b5 b6 js.length d5 d6 (Pl.Wk js) _ (by simp [Pl.Wk]) (by omega) q1 q2).mono ?_
  rintro e y1 ⟨rfl, ky1⟩
  go_wp2_with fail
  refine (same_any fv2 hv3 (Pl.D js).length gv2 iv3 (Pl.D js) _ rfl (by omega) (q3.kept ky1) (q4.kept ky1)).mono ?_
  rintro e y2 ⟨rfl, ky2a⟩
  have ky2 := ky1.next ky2a
  go_wp2_with fail
  refine (same_any ff2 hf3 (Pl.D js).length gf2 if3 (Pl.F js) _ (by simp [Pl.F]) (by omega) (q5.kept ky2) (q6.kept ky2)).mono ?_
  rintro e y3 ⟨rfl, ky3a⟩
  have ky3 := ky2.next ky3a
  go_wp2_with fail
  refine (same_any fc2 hc3 (Pl.D js).length gc2 ic3 (Pl.C js) _ (by simp [Pl.C]) (by omega) (q7.kept ky3) (q8.kept ky3)).mono ?_
  rintro e y4 ⟨rfl, ky4a⟩
  have ky4 := ky3.next ky4a
  go_wp2_with fail
  refine (allZero_any fs2 L2 gs2 (List.replicate L2 0) _ (by simp) (by omega) (q9.kept ky4)).mono ?_
  rintro e y5 ⟨rfl, rfl⟩
  rw [replicate_allZ]
  go_wp2_with fail
  refine (allZero_any hs3 u is3 (List.replicate u 0) _ (by simp) (by omega) (q0.kept ky4)).mono ?_
  rintro e y6 ⟨rfl, rfl⟩
  rw [replicate_allZ]
  go_wp2_with fail
  go_ret
  exact ⟨rfl, (Ka.next ky4).below (Nat.le_refl _) (by simp)⟩

end Go.Proofs.Qxb6601940a
