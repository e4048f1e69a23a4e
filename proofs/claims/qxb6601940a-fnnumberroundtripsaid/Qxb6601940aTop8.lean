import Derived.Test.Qxb6601940aBytes
import Derived.Test.Qxb6601940aTopB
namespace Go.Proofs.Qxb6601940a
open Go.RowKit
set_option linter.unusedVariables false

set_option maxHeartbeats 4000000 in
set_option maxRecDepth 100000 in
theorem top8_in (a0 a1 a2 a3 a4 : Option Addr) (n0 c0 n1 c1 n2 c2 n3 c3 c4 : Nat) (v : Nat) (xs1 xs2 xs3 ks : List Int) (w : World)
    (hl1 : xs1.length = n1) (hl2 : xs2.length = n2) (hl3 : xs3.length = n3)
    (hr0 : Rd .i64 w a0 (List.replicate n0 0)) (hr1 : Rd .i64 w a1 xs1) (hr2 : Rd .i64 w a2 xs2) (hr3 : Rd .i64 w a3 xs3) (hr4 : Rd .i64 w a4 ks)
    (hc0 : a0 = none → c0 = 0) (hc1 : a1 = none → c1 = 0) (hc2 : a2 = none → c2 = 0) (hc3 : a3 = none → c3 = 0) (hc4 : a4 = none → c4 = 0)
    (hs : n0 + n1 + n2 + n3 + ks.length ≤ 131072) (h0 : n0 ≤ 65536) (h1 : n1 ≤ 65536) (h2 : n2 ≤ 65536) (h3 : n3 ≤ 65536) (h4 : ks.length ≤ 65536) (hv : v ≤ 65536) (hk : keysB v ks = true) :
    Calls Try.prog 8 #[.slice a0 n0 c0, .slice a1 n1 c1, .slice a2 n2 c2, .slice a3 n3 c3, .slice a4 ks.length c4, .int .i64 v] w fun e w' => e = .returned (.bool true) ∧ Below w.heap.size w w' := by
  have HL : Hid (xs1.length = n1 ∧ xs2.length = n2 ∧ xs3.length = n3) := ⟨hl1, hl2, hl3⟩
  have HR : Hid (Rd .i64 w a0 (List.replicate n0 0) ∧ Rd .i64 w a1 xs1 ∧ Rd .i64 w a2 xs2 ∧ Rd .i64 w a3 xs3 ∧ Rd .i64 w a4 ks) := ⟨hr0, hr1, hr2, hr3, hr4⟩
  have HC : Hid ((a0 = none → c0 = 0) ∧ (a1 = none → c1 = 0) ∧ (a2 = none → c2 = 0) ∧ (a3 = none → c3 = 0) ∧ (a4 = none → c4 = 0)) := ⟨hc0, hc1, hc2, hc3, hc4⟩
  have HK : Hid (keysB v ks = true) := hk
  clear hl1 hl2 hl3 hr0 hr1 hr2 hr3 hr4 hc0 hc1 hc2 hc3 hc4 hk
  have g0 : decide ((65536 : Int) < (n0 : Int)) = false := by simp; omega
  have g1 : decide ((65536 : Int) < (n1 : Int)) = false := by simp; omega
  have g2 : decide ((65536 : Int) < (n2 : Int)) = false := by simp; omega
  have g3 : decide ((65536 : Int) < (n3 : Int)) = false := by simp; omega
  have g4 : decide ((65536 : Int) < (ks.length : Int)) = false := by simp; omega
  have g5 : decide ((1048576 : Int) < 8 * ((n0 : Int) + (n1 : Int) + (n2 : Int) + (n3 : Int) + (ks.length : Int))) = false := by simp; omega
  have g6 : decide ((v : Int) < 0) = false := by simp
  have g7 : decide ((65536 : Int) < (v : Int)) = false := by simp; omega
  go_enter Try.func8, Try.ntmps8
  go_wp2_with fail
  refine (bytes34_yes a0 a1 a2 a3 a4 n0 c0 n1 c1 n2 c2 n3 c3 ks.length c4 v _ (by omega)).mono ?_
  rintro e wz ⟨rfl, rfl⟩
  go_wp2_with fail
  refine (allZero_any a0 n0 c0 (List.replicate n0 0) _ (by simp) (by omega) HR.out.1).mono ?_
  rintro e w1 ⟨rfl, rfl⟩
  rw [replicate_allZ]
  go_wp2_with fail
  refine (keysIn_any a4 ks.length c4 ks v _ rfl (by omega) HR.out.2.2.2.2).mono ?_
  rintro e w2 ⟨rfl, rfl⟩
  rw [HK.out]
  go_wp2_with fail
  have R0 : Rows5 3 w2 w2.heap.size [] := Rows5.nil _ _
  have K0 : Kept [] w2 w2 := Kept.refl _ _
  have s0 : w2.heap.size ≤ w2.heap.size := Nat.le_refl _
  refine (clone_any a0 n0 c0 (List.replicate n0 0) _ w2.heap.size (by simp) (by omega) s0 ((HR.out.1).kept K0) HC.out.1).mono ?_
  rintro e x1 ⟨b0, d0, rfl, o0, k0, m0, _⟩
  have R1 := R0.made k0 o0 m0
  have K1 := K0.next k0
  have s1 : w2.heap.size ≤ x1.heap.size := K1.size
  clear R0 K0 s0 m0
  go_wp2_with fail
  refine (clone_any a1 n1 c1 xs1 _ w2.heap.size HL.out.1 (by omega) s1 ((HR.out.2.1).kept K1) HC.out.2.1).mono ?_
  rintro e x2 ⟨b1, d1, rfl, o1, k1, m1, _⟩
  have R2 := R1.made k1 o1 m1
  have K2 := K1.next k1
  have s2 : w2.heap.size ≤ x2.heap.size := K2.size
  clear R1 K1 s1 m1
  go_wp2_with fail
  refine (clone_any a2 n2 c2 xs2 _ w2.heap.size HL.out.2.1 (by omega) s2 ((HR.out.2.2.1).kept K2) HC.out.2.2.1).mono ?_
  rintro e x3 ⟨b2, d2, rfl, o2, k2, m2, _⟩
  have R3 := R2.made k2 o2 m2
  have K3 := K2.next k2
  have s3 : w2.heap.size ≤ x3.heap.size := K3.size
  clear R2 K2 s2 m2
  go_wp2_with fail
  refine (clone_any a3 n3 c3 xs3 _ w2.heap.size HL.out.2.2 (by omega) s3 ((HR.out.2.2.2.1).kept K3) HC.out.2.2.2.1).mono ?_
  rintro e x4 ⟨b3, d3, rfl, o3, k3, m3, _⟩
  have R4 := R3.made k3 o3 m3
  have K4 := K3.next k3
  have s4 : w2.heap.size ≤ x4.heap.size := K4.size
  clear R3 K3 s3 m3
  go_wp2_with fail
  refine (clone_any a4 ks.length c4 ks _ w2.heap.size rfl (by omega) s4 ((HR.out.2.2.2.2).kept K4) HC.out.2.2.2.2).mono ?_
  rintro e x5 ⟨b4, d4, rfl, o4, k4, m4, _⟩
  have R5 := R4.made k4 o4 m4
  have K5 := K4.next k4
  have s5 : w2.heap.size ≤ x5.heap.size := K5.size
  clear R4 K4 s4 m4
  go_wp2_with fail
  refine (clone_any b4 ks.length d4 ks _ w2.heap.size rfl (by omega) s5 o4.rd o4.nilCap).mono ?_
  rintro e x6 ⟨b5, d5, rfl, o5, k5, m5, _⟩
  have R6 := rows6 (R5.made k5 o5 m5)
  have K6 := K5.next k5
  have s6 : w2.heap.size ≤ x6.heap.size := K6.size
  clear R5 K5 s5 m5 o0 o1 o2 o3 o4 o5 k0 k1 k2 k3 k4 k5
  go_wp2_with fail
  obtain ⟨L, hL⟩ : ∃ L, L = max n0 v := ⟨_, rfl⟩
  have HLL : Hid (L = max n0 v) := hL
  have hL2 : L ≤ 65536 := by omega
  clear hL
  refine (zznumber_any b0 n0 d0 b1 n1 d1 b2 n2 d2 b3 n3 d3 b5 d5 ks.length v L ks xs1 xs2 xs3 w2.heap.size _ rfl HLL.out hv (by omega) (by omega) s6 (keysB_at HK.out) R6.left).mono ?_
  rintro e x7 ⟨es, fs, ev, fv, ef, ff, ec, fc, rfl, T7⟩
  have TF := Turn.frame R6 T7
  have R7 := TF.rows
  have B7 := TF.below R6 s6
  have K7 : Kept [] w2 x7 := K6.trans TF.kept (by
    intro k hk hlt
    obtain ⟨i, r, hi, he⟩ := mem_blocks.1 hk
    have := ((R6.1 i r hi).lt k he).1
    omega)
  have s7 := K7.size
  clear T7 TF R6 K6 s6 B7
  have hdl := Pl.length_D ks
  obtain ⟨i3, hi3, hz30, hz31, hz32⟩ := info_parts Try.info3
  obtain ⟨i4, hi4, hz40, hz41, hz42⟩ := info_parts Try.info4
  go_wp2_with (first | (at_make; refine wpList_make_full _ rfl (.tmp 134) (.tmp 134) 35 rfl w2.heap.size 3 i3 (.int .i64 0) 1 Try.underlying35 hi3 hz30 hz31 _ _ _ _ (Pl.D ks).length rfl rfl rfl rfl (by rw [hz32]; omega) (by unfold maxLen; omega) s7 ?_; intro x8 hown8 hgrow8))
  have hA : Own 3 .i64 x8 w2.heap.size (.slice (some ⟨x7.heap.size, 0, none⟩) (Pl.D ks).length (Pl.D ks).length) (Pl.D ks).length (Pl.T ks 0) := by
    rw [Pl.T_zero]; exact own_made2 hown8
  have hK := Kept.ofNew hgrow8
  clear hown8 hgrow8
  go_loopw [21] (fun i wr => ∃ k : Nat, k ≤ ks.length ∧ i = .int .i64 k ∧ Own 3 .i64 wr w2.heap.size (.slice (some ⟨x7.heap.size, 0, none⟩) (Pl.D ks).length (Pl.D ks).length) (Pl.D ks).length (Pl.T ks k) ∧ Kept [] x7 wr) (fun i _ => ks.length - (intOf i).toNat)
  case atStart => exact ⟨0, Nat.zero_le _, rfl, hA, hK⟩
  case round =>
    clear hA hK
    obtain ⟨k, hk, rfl, hown, hkept⟩ := hrel
    have RR := R7.kept hkept
    by_cases hlt : k < ks.length
    · have hix := Pl.idx_lt (Pl.getD_mem hlt)
      have hfi := Pl.idxOf_le hlt
      obtain ⟨gw, cw, hw1, _⟩ := (RR.get (i := 4) rfl).pos (by omega)
      simp only [Value.slice.injEq] at hw1
      obtain ⟨rfl, _, rfl⟩ := hw1
      obtain ⟨gk, ck, hw2, _⟩ := (RR.get (i := 5) rfl).pos (by omega)
      simp only [Value.slice.injEq] at hw2
      obtain ⟨rfl, _, rfl⟩ := hw2
      obtain ⟨gv, cv, hw3, _⟩ := (RR.get (i := 1) rfl).pos (by omega)
      simp only [Value.slice.injEq] at hw3
      obtain ⟨rfl, _, rfl⟩ := hw3
      obtain ⟨gf, cf, hw4, _⟩ := (RR.get (i := 2) rfl).pos (by omega)
      simp only [Value.slice.injEq] at hw4
      obtain ⟨rfl, _, rfl⟩ := hw4
      have e1 := (RR.get (i := 4) rfl).cell hlt
      rw [Pl.Wk_at _ _ hlt] at e1
      have e2 := (RR.get (i := 5) rfl).cell hlt
      have e3 := (RR.get (i := 1) rfl).cell hix
      rw [Pl.D_at _ _ hlt] at e3
      have e4 := (RR.get (i := 2) rfl).cell hix
      rw [Pl.F_at _ _ hlt] at e4
      have e5 := hown.cell hix
      rw [Pl.T_at _ _ hlt] at e5
      have f5 := hown.fr ((Pl.D ks).idxOf (ks.getD k 0))
      have ST := hown.store ((Pl.D ks).idxOf (ks.getD k 0)) (((ks.take k).count (ks.getD k 0) : Int) + 1)
      rw [Pl.T_step _ _ hlt] at ST
      have hcn : (ks.take k).count (ks.getD k 0) ≤ (ks.take k).length := List.count_le_length
      rw [List.length_take] at hcn
      have K2 : Kept [] x7 (wr.setCell ⟨x7.heap.size, (Pl.D ks).idxOf (ks.getD k 0), none⟩ (.int .i64 (((ks.take k).count (ks.getD k 0) : Int) + 1))) := hkept.trans ST.2 (by intro j hj hj2; simp at hj; omega)
      have HST : Hid (_ ∧ _) := ⟨ST.1, K2⟩
      clear ST K2 hown RR
      generalize (ks.take k).count (ks.getD k 0) = cn at *
      generalize (Pl.D ks).idxOf (ks.getD k 0) = ix at *
      generalize ks.idxOf (ks.getD k 0) = fi at *
      generalize ks.getD k 0 = z at *
      have y1 : (0 : Int) ≤ (ix : Int) := by omega
      have y2 : (ix : Int) < ((Pl.D ks).length : Int) := by omega
      have y3 : (0 : Int) ≤ (k : Int) := by omega
      have y4 : (k : Int) < (ks.length : Int) := by omega
      have y5 : decide ((k : Int) < (fi : Int)) = false := by simp; omega
      go_wp2
      go_quiet (fail)
      go_wp2
      go_roundw
      case rel => exact ⟨k + 1, by omega, by go_num, HST.out.1.drewN _, HST.out.2.next (Kept.drewN _ _)⟩
      case measure => simp [intOf]; omega
    · obtain rfl : k = ks.length := by omega
      have sk := hkept.size
      obtain ⟨wo, rfl⟩ : ∃ wo : World, wo = wr := ⟨_, rfl⟩
      go_wp2_with (first | (at_make; refine wpList_make_full _ rfl (.tmp 175) (.tmp 175) 47 rfl w2.heap.size 4 i4 (.bool false) 1 Try.underlying47 hi4 hz40 hz41 _ _ _ _ v rfl rfl rfl rfl (by rw [hz42]; omega) (by unfold maxLen; omega) (by omega) ?_; intro x9 hown9 hgrow9))
      have hA2 : OwnB x9 w2.heap.size (.slice (some ⟨wo.heap.size, 0, none⟩) v v) v (Pl.M v ks 0) := by
        rw [Pl.M_zero]; exact ownB_made2 hown9
      have hK2 := Kept.ofNew hgrow9
      clear hown9 hgrow9
      go_loopw [24] (fun i wr => ∃ m : Nat, m ≤ (Pl.D ks).length ∧ i = .int .i64 m ∧ OwnB wr w2.heap.size (.slice (some ⟨wo.heap.size, 0, none⟩) v v) v (Pl.M v ks m) ∧ Kept [] wo wr) (fun i _ => (Pl.D ks).length - (intOf i).toNat)
      case atStart => exact ⟨0, Nat.zero_le _, rfl, hA2, hK2⟩
      case round =>
        clear hA2 hK2
        obtain ⟨m, hm, rfl, hmark, hkept2⟩ := hrel
        have RW := (R7.kept hkept).kept hkept2
        by_cases hlt2 : m < (Pl.D ks).length
        · rcases Nat.eq_zero_or_pos m with hm0 | hm0
          · subst hm0
            obtain ⟨gf, cf, hw4, _⟩ := (RW.get (i := 2) rfl).pos (by omega)
            simp only [Value.slice.injEq] at hw4
            obtain ⟨rfl, _, rfl⟩ := hw4
            obtain ⟨gw, cw, hw1, _⟩ := (RW.get (i := 4) rfl).pos (by omega)
            simp only [Value.slice.injEq] at hw1
            obtain ⟨rfl, _, rfl⟩ := hw1
            obtain ⟨gk, ck, hw2, _⟩ := (RW.get (i := 5) rfl).pos (by omega)
            simp only [Value.slice.injEq] at hw2
            obtain ⟨rfl, _, rfl⟩ := hw2
            obtain ⟨gv, cv, hw3, _⟩ := (RW.get (i := 1) rfl).pos (by omega)
            simp only [Value.slice.injEq] at hw3
            obtain ⟨rfl, _, rfl⟩ := hw3
            obtain ⟨gc, cc, hw5, _⟩ := (RW.get (i := 3) rfl).pos (by omega)
            simp only [Value.slice.injEq] at hw5
            obtain ⟨rfl, _, rfl⟩ := hw5
            have hgc := ((R7.get (i := 3) rfl).lt gc rfl).2
            have hgt := (hown.lt x7.heap.size rfl).2
            have ne1 : gc ≠ wo.heap.size := by omega
            have ne2 : x7.heap.size ≠ wo.heap.size := by omega
            have hfl := Pl.first_lt ks 0 hlt2
            have hdm := keysB_at HK.out _ hfl
            rw [Pl.first_key ks 0 hlt2] at hdm
            obtain ⟨u, hu⟩ := Int.eq_ofNat_of_zero_le hdm.1
            have hul : u < v := by omega
            clear hdm
            have e1 := (RW.get (i := 2) rfl).cell hlt2
            rw [Pl.F_get ks 0 hlt2] at e1
            have e2 := (RW.get (i := 4) rfl).cell hfl
            rw [Pl.first_number ks 0 hlt2] at e2
            have e4a := (RW.get (i := 5) rfl).cell hfl
            rw [Pl.first_key ks 0 hlt2] at e4a
            have e4 := e4a.trans (congrArg (fun z => some (Value.int .i64 z)) hu)
            clear e4a
            have e5 := (RW.get (i := 1) rfl).cell hlt2
            rw [hu] at e5
            have e6 := hmark.cell hul
            rw [Pl.M_fresh v ks 0 u hlt2 hu hul] at e6
            have f6 := hmark.fr u
            have e7 := (RW.get (i := 3) rfl).cell hlt2
            rw [Pl.C_get] at e7
            have e8 := (hown.kept0 hkept2).cell hlt2
            have ST := hmark.store u true
            rw [Pl.M_step v ks 0 u hlt2 hu] at ST
            have K2 : Kept [] wo (wr.setCell ⟨wo.heap.size, u, none⟩ (.bool true)) := hkept2.trans ST.2 (by intro j hj hj2; simp at hj; omega)
            have HST : Hid (_ ∧ _) := ⟨ST.1, K2⟩
            have y0 : decide ((0 : Int) < ((0 : Nat) : Int)) = false := by simp
            clear ST K2 hmark RW
            generalize (Pl.T ks ks.length).getD 0 0 = cn at *
            generalize ks.idxOf ((Pl.D ks).getD 0 0) = fm at *
            clear hu
            have y1 : (0 : Int) ≤ ((0 : Nat) : Int) := by omega
            have y2 : ((0 : Nat) : Int) < ((Pl.D ks).length : Int) := by omega
            go_wp2
            go_quiet (fail)
            go_wp2
            go_roundw
            case rel => exact ⟨0 + 1, by omega, by go_num, HST.out.1.drewN _, HST.out.2.next (Kept.drewN _ _)⟩
            case measure => simp [intOf]; omega
          · obtain ⟨m', rfl⟩ : ∃ m', m = m' + 1 := ⟨m - 1, by omega⟩
            obtain ⟨gf, cf, hw4, _⟩ := (RW.get (i := 2) rfl).pos (by omega)
            simp only [Value.slice.injEq] at hw4
            obtain ⟨rfl, _, rfl⟩ := hw4
            obtain ⟨gw, cw, hw1, _⟩ := (RW.get (i := 4) rfl).pos (by omega)
            simp only [Value.slice.injEq] at hw1
            obtain ⟨rfl, _, rfl⟩ := hw1
            obtain ⟨gk, ck, hw2, _⟩ := (RW.get (i := 5) rfl).pos (by omega)
            simp only [Value.slice.injEq] at hw2
            obtain ⟨rfl, _, rfl⟩ := hw2
            obtain ⟨gv, cv, hw3, _⟩ := (RW.get (i := 1) rfl).pos (by omega)
            simp only [Value.slice.injEq] at hw3
            obtain ⟨rfl, _, rfl⟩ := hw3
            obtain ⟨gc, cc, hw5, _⟩ := (RW.get (i := 3) rfl).pos (by omega)
            simp only [Value.slice.injEq] at hw5
            obtain ⟨rfl, _, rfl⟩ := hw5
            have hgc := ((R7.get (i := 3) rfl).lt gc rfl).2
            have hgt := (hown.lt x7.heap.size rfl).2
            have ne1 : gc ≠ wo.heap.size := by omega
            have ne2 : x7.heap.size ≠ wo.heap.size := by omega
            have hfl := Pl.first_lt ks (m' + 1) hlt2
            have hdm := keysB_at HK.out _ hfl
            rw [Pl.first_key ks (m' + 1) hlt2] at hdm
            obtain ⟨u, hu⟩ := Int.eq_ofNat_of_zero_le hdm.1
            have hul : u < v := by omega
            clear hdm
            have e1 := (RW.get (i := 2) rfl).cell hlt2
            rw [Pl.F_get ks (m' + 1) hlt2] at e1
            have e2 := (RW.get (i := 4) rfl).cell hfl
            rw [Pl.first_number ks (m' + 1) hlt2] at e2
            have e4a := (RW.get (i := 5) rfl).cell hfl
            rw [Pl.first_key ks (m' + 1) hlt2] at e4a
            have e4 := e4a.trans (congrArg (fun z => some (Value.int .i64 z)) hu)
            clear e4a
            have e5 := (RW.get (i := 1) rfl).cell hlt2
            rw [hu] at e5
            have e6 := hmark.cell hul
            rw [Pl.M_fresh v ks (m' + 1) u hlt2 hu hul] at e6
            have f6 := hmark.fr u
            have e7 := (RW.get (i := 3) rfl).cell hlt2
            rw [Pl.C_get] at e7
            have e8 := (hown.kept0 hkept2).cell hlt2
            have ST := hmark.store u true
            rw [Pl.M_step v ks (m' + 1) u hlt2 hu] at ST
            have K2 : Kept [] wo (wr.setCell ⟨wo.heap.size, u, none⟩ (.bool true)) := hkept2.trans ST.2 (by intro j hj hj2; simp at hj; omega)
            have HST : Hid (_ ∧ _) := ⟨ST.1, K2⟩
            have e9 := (RW.get (i := 2) rfl).cell (show m' < (Pl.D ks).length by omega)
            rw [Pl.F_get ks m' (by omega)] at e9
            have hlt9 := Pl.F_lt ks m' (by omega)
            clear ST K2 hmark RW
            generalize (Pl.T ks ks.length).getD (m' + 1) 0 = cn at *
            generalize ks.idxOf ((Pl.D ks).getD (m' + 1) 0) = fm at *
            generalize ks.idxOf ((Pl.D ks).getD m' 0) = fp at *
            clear hu
            have y1 : (0 : Int) ≤ ((m' + 1) : Int) := by omega
            have y2 : ((m' + 1) : Int) < ((Pl.D ks).length : Int) := by omega
            go_wp2
            go_quiet (fail)
            go_wp2
            go_roundw
            case rel => exact ⟨(m' + 1) + 1, by omega, by go_num, HST.out.1.drewN _, HST.out.2.next (Kept.drewN _ _)⟩
            case measure => simp [intOf]; omega
        · obtain rfl : m = (Pl.D ks).length := by omega
          have hz : allZ (List.replicate L 0) = true := replicate_allZ L
          have HRD := (RW.get (i := 0) rfl).rd
          have HRD2 : Hid (Rd .i64 wr es (List.replicate L 0)) := HRD
          have HKK : Hid (Kept [] w2 wr) := (K7.next hkept).next hkept2
          have hL0 := HLL.out
          by_cases hmv : n0 < v
          · have hd1 : decide ((n0 : Int) < (v : Int)) = true := by simp; omega
            obtain rfl : L = v := by omega
            clear hL0 HRD hmark RW
            go_wp2_with fail
            refine (allZero_any es L fs (List.replicate L 0) _ (by simp) (by omega) HRD2.out).mono ?_
            rintro e y ⟨rfl, rfl⟩
            rw [hz]
            go_wp2_with fail
            go_ret
            exact ⟨rfl, HKK.out.below (Nat.le_refl _) (by simp)⟩
          · have hd1 : decide ((n0 : Int) < (v : Int)) = false := by simp; omega
            obtain rfl : L = n0 := by omega
            clear hL0 HRD hmark RW
            go_wp2_with fail
            refine (allZero_any es L fs (List.replicate L 0) _ (by simp) (by omega) HRD2.out).mono ?_
            rintro e y ⟨rfl, rfl⟩
            rw [hz]
            go_wp2_with fail
            go_ret
            exact ⟨rfl, HKK.out.below (Nat.le_refl _) (by simp)⟩

end Go.Proofs.Qxb6601940a
