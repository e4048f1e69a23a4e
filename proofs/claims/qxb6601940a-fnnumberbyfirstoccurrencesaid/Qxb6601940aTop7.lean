import Derived.Test.Qxb6601940aBytes
import Derived.Test.Qxb6601940aTopD
import Derived.Test.Qxb6601940aPlainC
namespace Go.Proofs.Qxb6601940a
open Go.RowKit
set_option linter.unusedVariables false

theorem cell_one_new2 (w : World) (v : Value) (e : TypeId) (H : Nat) (hH : w.heap.size = H) : ∀ j u, [v][j]? = some u → (w.alloc (.cells #[v] e)).cell? ((⟨H, 0, none⟩ : Addr).add j) = some u := by
  subst hH
  exact cell_one_new _ _ _

set_option maxHeartbeats 4000000 in
set_option maxRecDepth 100000 in
theorem top7_in (a0 a1 a2 a3 a4 : Option Addr) (n0 c0 n1 c1 n2 c2 n3 c3 c4 : Nat) (v : Nat) (xs1 xs2 xs3 ks : List Int) (w : World)
    (hl1 : xs1.length = n1) (hl2 : xs2.length = n2) (hl3 : xs3.length = n3)
    (hr0 : Rd .i64 w a0 (List.replicate n0 0)) (hr1 : Rd .i64 w a1 xs1) (hr2 : Rd .i64 w a2 xs2) (hr3 : Rd .i64 w a3 xs3) (hr4 : Rd .i64 w a4 ks)
    (hc0 : a0 = none → c0 = 0) (hc1 : a1 = none → c1 = 0) (hc2 : a2 = none → c2 = 0) (hc3 : a3 = none → c3 = 0) (hc4 : a4 = none → c4 = 0)
    (hs : n0 + n1 + n2 + n3 + ks.length ≤ 131072) (h0 : n0 ≤ 65536) (h1 : n1 ≤ 65536) (h2 : n2 ≤ 65536) (h3 : n3 ≤ 65536) (h4 : ks.length ≤ 4096) (hv : v ≤ 65536) (hk : keysB v ks = true) :
    Calls Try.prog 7 #[.slice a0 n0 c0, .slice a1 n1 c1, .slice a2 n2 c2, .slice a3 n3 c3, .slice a4 ks.length c4, .int .i64 v] w fun e w' => e = .returned (.bool true) ∧ Below w.heap.size w w' := by
  have HL : Hid (xs1.length = n1 ∧ xs2.length = n2 ∧ xs3.length = n3) := ⟨hl1, hl2, hl3⟩
  have HR : Hid (Rd .i64 w a0 (List.replicate n0 0) ∧ Rd .i64 w a1 xs1 ∧ Rd .i64 w a2 xs2 ∧ Rd .i64 w a3 xs3 ∧ Rd .i64 w a4 ks) := ⟨hr0, hr1, hr2, hr3, hr4⟩
  have HC : Hid ((a0 = none → c0 = 0) ∧ (a1 = none → c1 = 0) ∧ (a2 = none → c2 = 0) ∧ (a3 = none → c3 = 0) ∧ (a4 = none → c4 = 0)) := ⟨hc0, hc1, hc2, hc3, hc4⟩
  have HK : Hid (keysB v ks = true) := hk
  clear hl1 hl2 hl3 hr0 hr1 hr2 hr3 hr4 hc0 hc1 hc2 hc3 hc4 hk
  have g0 : decide ((65536 : Int) < (n0 : Int)) = false := by simp; omega
  have g1 : decide ((65536 : Int) < (n1 : Int)) = false := by simp; omega
  have g2 : decide ((65536 : Int) < (n2 : Int)) = false := by simp; omega
  have g3 : decide ((65536 : Int) < (n3 : Int)) = false := by simp; omega
  have g4 : decide ((4096 : Int) < (ks.length : Int)) = false := by simp; omega
  have g5 : decide ((1048576 : Int) < 8 * ((n0 : Int) + (n1 : Int) + (n2 : Int) + (n3 : Int) + (ks.length : Int))) = false := by simp; omega
  have g6 : decide ((v : Int) < 0) = false := by simp
  have g7 : decide ((65536 : Int) < (v : Int)) = false := by simp; omega
  go_enter Try.func7, Try.ntmps7
  go_wp2_with fail
  refine (bytes30_yes a0 a1 a2 a3 a4 n0 c0 n1 c1 n2 c2 n3 c3 ks.length c4 v _ (by omega)).mono ?_
  rintro e wz ⟨rfl, rfl⟩
  go_wp2_with fail
  refine (allZero_any a0 n0 c0 (List.replicate n0 0) _ (by simp) (by omega) HR.out.1).mono ?_
  rintro e w1 ⟨rfl, rfl⟩
  rw [replicate_allZ]
  go_wp2_with fail
  refine (keysIn_any a4 ks.length c4 ks v _ rfl (by omega) HR.out.2.2.2.2).mono ?_
  rintro e w2 ⟨rfl, rfl⟩
  rw [HK.out]
  go_wp2_with fail
  have R0 : Rows5 3 w2 w2.heap.size [] := Rows5.nil _ _
  have K0 : Kept [] w2 w2 := Kept.refl _ _
  have s0 : w2.heap.size ≤ w2.heap.size := Nat.le_refl _
  refine (clone_any a0 n0 c0 (List.replicate n0 0) _ w2.heap.size (by simp) (by omega) s0 ((HR.out.1).kept K0) HC.out.1).mono ?_
  rintro e x1 ⟨b0, d0, rfl, o0, k0, m0, _⟩
  have R1 := R0.made k0 o0 m0
  have K1 := K0.next k0
  have s1 : w2.heap.size ≤ x1.heap.size := K1.size
  clear R0 K0 s0 m0
  go_wp2_with fail
  refine (clone_any a1 n1 c1 xs1 _ w2.heap.size HL.out.1 (by omega) s1 ((HR.out.2.1).kept K1) HC.out.2.1).mono ?_
  rintro e x2 ⟨b1, d1, rfl, o1, k1, m1, _⟩
  have R2 := R1.made k1 o1 m1
  have K2 := K1.next k1
  have s2 : w2.heap.size ≤ x2.heap.size := K2.size
  clear R1 K1 s1 m1
  go_wp2_with fail
  refine (clone_any a2 n2 c2 xs2 _ w2.heap.size HL.out.2.1 (by omega) s2 ((HR.out.2.2.1).kept K2) HC.out.2.2.1).mono ?_
  rintro e x3 ⟨b2, d2, rfl, o2, k2, m2, _⟩
  have R3 := R2.made k2 o2 m2
  have K3 := K2.next k2
  have s3 : w2.heap.size ≤ x3.heap.size := K3.size
  clear R2 K2 s2 m2
  go_wp2_with fail
  refine (clone_any a3 n3 c3 xs3 _ w2.heap.size HL.out.2.2 (by omega) s3 ((HR.out.2.2.2.1).kept K3) HC.out.2.2.2.1).mono ?_
  rintro e x4 ⟨b3, d3, rfl, o3, k3, m3, _⟩
  have R4 := R3.made k3 o3 m3
  have K4 := K3.next k3
  have s4 : w2.heap.size ≤ x4.heap.size := K4.size
  clear R3 K3 s3 m3
  go_wp2_with fail
  refine (clone_any a4 ks.length c4 ks _ w2.heap.size rfl (by omega) s4 ((HR.out.2.2.2.2).kept K4) HC.out.2.2.2.2).mono ?_
  rintro e x5 ⟨b4, d4, rfl, o4, k4, m4, _⟩
  have R5 := R4.made k4 o4 m4
  have K5 := K4.next k4
  have s5 : w2.heap.size ≤ x5.heap.size := K5.size
  clear R4 K4 s4 m4
  go_wp2_with fail
  refine (clone_any b4 ks.length d4 ks _ w2.heap.size rfl (by omega) s5 o4.rd o4.nilCap).mono ?_
  rintro e x6 ⟨b5, d5, rfl, o5, k5, m5, _⟩
  have R6 := rows6 (R5.made k5 o5 m5)
  have K6 := K5.next k5
  have s6 : w2.heap.size ≤ x6.heap.size := K6.size
  clear R5 K5 s5 m5 o0 o1 o2 o3 o4 o5 k0 k1 k2 k3 k4 k5
  have hdl := Pl.length_D ks
  obtain ⟨i3, hi3, hz30, hz31, hz32⟩ := info_parts Try.info3
  go_wp2_with (first | (at_make; refine wpList_make_full _ rfl (.tmp 105) (.tmp 105) 35 rfl x6.heap.size 3 i3 (.int .i64 0) 1 Try.underlying35 hi3 hz30 hz31 _ _ _ _ ks.length rfl rfl rfl rfl (by rw [hz32]; omega) (by unfold maxLen; omega) (Nat.le_refl _) ?_; intro x7 hown7 hgrow7))
  have hA : Rows5 3 x7 x6.heap.size [(.slice (some ⟨x6.heap.size, 0, none⟩) ks.length ks.length, ks.length, Pl.Wp ks 0), (.slice none 0 0, (Pl.D (ks.take 0)).length, Pl.F (ks.take 0))] := by
    rw [Pl.Wp_zero]
    exact (Rows5.consNil (Rows5.nil _ _)).cons (own_made2 hown7) (by
      intro g hg i r hi
      match i, hi with
      | 0, hi => simp at hi; subst hi; simp [Value.ownBlock]
      | _ + 1, hi => simp at hi)
  have hK := Kept.ofNew hgrow7
  clear hown7 hgrow7
  go_loopw [16, 17] (fun vf i wr => ∃ k : Nat, k ≤ ks.length ∧ i = .int .i64 k ∧ Rows5 3 wr x6.heap.size [(.slice (some ⟨x6.heap.size, 0, none⟩) ks.length ks.length, ks.length, Pl.Wp ks k), (vf, (Pl.D (ks.take k)).length, Pl.F (ks.take k))] ∧ Kept [] x6 wr) (fun _ i _ => ks.length - (intOf i).toNat)
  case atStart => exact ⟨0, Nat.zero_le _, rfl, hA, hK⟩
  case round =>
    clear hA hK
    obtain ⟨k, hk, rfl, hrw, hkept⟩ := hrel
    obtain ⟨wo, rfl⟩ : ∃ wo : World, wo = wr := ⟨_, rfl⟩
    by_cases hlt : k < ks.length
    · obtain ⟨gk, ck, hw2, _⟩ := (R6.get (i := 5) rfl).pos (by omega)
      simp only [Value.slice.injEq] at hw2
      obtain ⟨rfl, _, rfl⟩ := hw2
      have hfi := Pl.idxOf_le hlt
      obtain ⟨fi, hfe⟩ : ∃ fi, fi = ks.idxOf (ks.getD k 0) := ⟨_, rfl⟩
      obtain ⟨zk, hze⟩ : ∃ zk, zk = ks.getD k 0 := ⟨_, rfl⟩
      rw [← hfe] at hfi
      have HF : Hid (fi = ks.idxOf (ks.getD k 0)) := hfe
      have HZ : Hid (zk = ks.getD k 0) := hze
      clear hfe hze
      have y3 : (0 : Int) ≤ (k : Int) := by omega
      have y4 : (k : Int) < (ks.length : Int) := by omega
      go_wp2
      go_loopw [18] (fun i wr => ∃ j : Nat, j ≤ fi ∧ i = .int .i64 j ∧ Kept [] wo wr) (fun i _ => fi - (intOf i).toNat)
      case atStart => exact ⟨0, Nat.zero_le _, rfl, Kept.refl _ _⟩
      case round =>
        obtain ⟨j, hj, rfl, hkept2⟩ := hrel
        have RR := (R6.kept hkept).kept hkept2
        have hjl : j < ks.length := by omega
        have e1 := (RR.get (i := 5) rfl).cell hjl
        have e2 := (RR.get (i := 5) rfl).cell hlt
        rw [← HZ.out] at e2
        have y1 : (0 : Int) ≤ (j : Int) := by omega
        have y2 : (j : Int) < (ks.length : Int) := by omega
        clear RR
        by_cases hlt2 : j < fi
        · have hne : (ks.getD j 0 != zk) = true := by
            have := Pl.idxOf_first (x := ks.getD k 0) (show j < ks.idxOf (ks.getD k 0) by rw [← HF.out]; exact hlt2)
            rw [HZ.out]; simpa using this
          generalize ks.getD j 0 = zj at *
          go_wp2
          go_quiet (fail)
          go_wp2
          go_roundw
          case rel => exact ⟨j + 1, by omega, by go_num, hkept2.next (Kept.drewN _ _)⟩
          case measure => simp [intOf]; omega
        · obtain rfl : j = fi := by omega
          have hzj : ks.getD j 0 = zk := by rw [HF.out, HZ.out]; exact Pl.getD_idxOf (Pl.getD_mem hlt)
          rw [hzj] at e1
          clear hzj
          go_wp2
          go_quiet (fail)
          have hq : Kept [] wr (wr.drewN nq) := Kept.drewN _ _
          generalize wr.drewN nq = wq at hq ⊢
          have hrw2 := (hrw.kept hkept2).kept hq
          have hkk : Kept [] x6 wq := (hkept.next hkept2).next hq
          have hdk := Pl.length_D (ks.take k)
          rw [List.length_take] at hdk
          have hsq := hkk.size
          clear hrw hkept hkept2 hq e1 e2
          obtain ⟨af, cf, rfl⟩ := (hrw2.get (i := 1) rfl).slice
          have ew := (hrw2.get (i := 0) rfl).cell hlt
          have fw := (hrw2.get (i := 0) rfl).fr k
          by_cases hnew : j = k
          · subst hnew
            have hm : ks.getD j 0 ∉ ks.take j := by
              intro hm
              have := Pl.idxOf_take hm
              rw [← HF.out] at this
              omega
            have t1 := Turn.store hrw2 (i := 0) rfl j ((Pl.D (ks.take j)).length : Int)
            have es1 := t1.kept.size
            go_wp2_with (first | (at_builtin; refine wpList_append_lies _ rfl (.tmp 131) (.tmp 133) 35 rfl x6.heap.size 3 i3 (.int .i64 0) 1 8 Try.underlying35 hi3 hz30 hz31 hz32 rfl (by decide) (.slice af (Pl.D (ks.take j)).length cf) (Pl.D (ks.take j)).length ((Pl.F (ks.take j)).map (Value.int .i64)) rfl (World.ownsRow.alloc (t1.rows.get (i := 1) rfl) _) ⟨wq.heap.size, 0, none⟩ 1 1 [.int .i64 (j : Int)] rfl rfl (cell_one_new2 _ _ _ wq.heap.size (by simp)) (ints_oneCell .i64 [(j : Int)]) (by decide) (by unfold maxLen; omega) (by omega) (by simp; omega) (wq.heap.size + 1) (by simp) ?_; intro g9 k9 w9 hown9 hgrow9 hat9 hlt9))
            have t2 := Turn.app t1.rows (i := 1) rfl hown9 hgrow9 (by
              rcases hat9 with h | h
              · exact .inl h
              · exact .inr (by simpa using h))
            have hl : (ks.take j).length = j := by rw [List.length_take]; omega
            have R9 : Rows5 3 w9 x6.heap.size [(.slice (some ⟨x6.heap.size, 0, none⟩) ks.length ks.length, ks.length, Pl.Wp ks (j + 1)), (.slice (some ⟨g9, 0, none⟩) ((Pl.D (ks.take j)).length + 1) k9, (Pl.D (ks.take (j + 1))).length, Pl.F (ks.take (j + 1)))] := by
              rw [← Pl.Wp_set ks j hlt _ (by rw [Pl.idx_new hm]), Pl.take_snoc hlt, Pl.length_new hm, Pl.F_new hm, hl]
              exact t2.rows
            have K9 : Kept [] x6 w9 := (Turn.keptB (t1.trans t2) hrw2 hkk rfl)
            clear hown9 hgrow9 t1 t2 hm
            go_roundw
            case rel => exact ⟨j + 1, by omega, by go_num, R9, K9⟩
            case measure => simp [intOf]; omega
          · have hjk : j < k := by omega
            have hm : ks.getD k 0 ∈ ks.take k := Pl.mem_of_idxOf (by rw [← HF.out]; exact hjk) (by omega)
            have ej := (hrw2.get (i := 0) rfl).cell (show j < ks.length by omega)
            have ewo := Pl.Wp_old ks k hlt hm
            rw [← HF.out] at ewo
            rw [ewo] at ej
            have t1 := Turn.store hrw2 (i := 0) rfl k ((Pl.D (ks.take k ++ [ks.getD k 0])).idxOf (ks.getD k 0) : Int)
            have R9 : Rows5 3 (wq.setCell ⟨x6.heap.size, k, none⟩ (.int .i64 ((Pl.D (ks.take k ++ [ks.getD k 0])).idxOf (ks.getD k 0) : Int))) x6.heap.size [(.slice (some ⟨x6.heap.size, 0, none⟩) ks.length ks.length, ks.length, Pl.Wp ks (k + 1)), (.slice af (Pl.D (ks.take k)).length cf, (Pl.D (ks.take (k + 1))).length, Pl.F (ks.take (k + 1)))] := by
              rw [← Pl.Wp_set ks k hlt _ rfl, Pl.take_snoc hlt, Pl.D_old hm, Pl.F_old hm]
              rw [Pl.D_old hm] at t1
              exact t1.rows
            have K9 := Turn.keptB t1 hrw2 hkk rfl
            have HRK : Hid (_ ∧ _) := ⟨R9, K9⟩
            clear R9 K9 t1 hm ewo
            generalize ((Pl.D (ks.take k ++ [ks.getD k 0])).idxOf (ks.getD k 0) : Int) = ix at *
            have hjk2 : ¬ (j : Int) = (k : Int) := by omega
            go_wp2
            go_roundw
            case rel => exact ⟨k + 1, by omega, by go_num, HRK.out.1, HRK.out.2⟩
            case measure => simp [intOf]; omega
    · obtain rfl : k = ks.length := by omega
      rw [List.take_length, Pl.Wp_full] at hrw
      obtain ⟨af, cf, hvf⟩ := (hrw.get (i := 1) rfl).slice
      subst hvf
      have R7 : Rows5 3 wo w2.heap.size (taken b0 n0 d0 (List.replicate n0 0) b1 n1 d1 xs1 b2 n2 d2 xs2 b3 n3 d3 xs3 b5 d5 ks ++ [(.slice b4 ks.length d4, ks.length, ks), (.slice (some ⟨x6.heap.size, 0, none⟩) ks.length ks.length, ks.length, Pl.Wk ks), (.slice af (Pl.D ks).length cf, (Pl.D ks).length, Pl.F ks)]) := by
        have J := Rows5.join (R6.kept hkept) hrw s6 (fun i r hi g hg => ((R6.1 i r hi).lt g hg).2)
        exact J
      have K7 := K6.next hkept
      have s7 := K7.size
      clear hrw hkept R6 K6 s6
      go_wp2_with fail
      obtain ⟨L, hL⟩ : ∃ L, L = max n0 v := ⟨_, rfl⟩
      have HLL : Hid (L = max n0 v) := hL
      have hL2 : L ≤ 65536 := by omega
      clear hL
      refine (zznumber_any b0 n0 d0 b1 n1 d1 b2 n2 d2 b3 n3 d3 b5 d5 ks.length v L ks xs1 xs2 xs3 w2.heap.size _ rfl HLL.out hv (by omega) (by omega) s7 (keysB_at HK.out) R7.left).mono ?_
      rintro e x8 ⟨es, fs, ev, fv, ef, ff, ec, fc, rfl, T8⟩
      have TF := Turn.frame R7 T8
      have R8 := TF.rows
      have K8 := TF.keptB R7 K7 rfl
      clear T8 TF R7 K7 s7
      go_wp2_with fail
      refine (same_any b5 (some ⟨x6.heap.size, 0, none⟩) ks.length d5 ks.length (Pl.Wk ks) _ (by simp [Pl.Wk]) (by omega) (R8.get (i := 4) rfl).rd (R8.get (i := 6) rfl).rd).mono ?_
      rintro e x9 ⟨rfl, k9⟩
      have R9 := R8.kept k9
      have K9 := K8.next k9
      clear R8 K8 k9
      go_wp2
      go_loopw [24] (fun i wr => ∃ m : Nat, m ≤ (Pl.D ks).length ∧ i = .int .i64 m ∧ Kept [] x9 wr) (fun i _ => (Pl.D ks).length - (intOf i).toNat)
      case atStart => exact ⟨0, Nat.zero_le _, rfl, Kept.refl _ _⟩
      case round =>
        obtain ⟨m, hm, rfl, hkept2⟩ := hrel
        obtain ⟨wo2, rfl⟩ : ∃ wo2 : World, wo2 = wr := ⟨_, rfl⟩
        have RW := R9.kept hkept2
        by_cases hlt2 : m < (Pl.D ks).length
        · obtain ⟨gf, cf', hw4, _⟩ := (RW.get (i := 2) rfl).pos (by omega)
          simp only [Value.slice.injEq] at hw4
          obtain ⟨rfl, _, rfl⟩ := hw4
          obtain ⟨gk, ck, hw2, _⟩ := (RW.get (i := 5) rfl).pos (by omega)
          simp only [Value.slice.injEq] at hw2
          obtain ⟨rfl, _, rfl⟩ := hw2
          obtain ⟨gv, cv, hw3, _⟩ := (RW.get (i := 1) rfl).pos (by omega)
          simp only [Value.slice.injEq] at hw3
          obtain ⟨rfl, _, rfl⟩ := hw3
          obtain ⟨gc, cc, hw5, _⟩ := (RW.get (i := 3) rfl).pos (by omega)
          simp only [Value.slice.injEq] at hw5
          obtain ⟨rfl, _, rfl⟩ := hw5
          obtain ⟨gi, ci, hw6, _⟩ := (RW.get (i := 7) rfl).pos (by omega)
          simp only [Value.slice.injEq] at hw6
          obtain ⟨rfl, _, rfl⟩ := hw6
          have hfl := Pl.first_lt ks m hlt2
          have e1 := (RW.get (i := 7) rfl).cell hlt2
          rw [Pl.F_get ks m hlt2] at e1
          have e2 := (RW.get (i := 2) rfl).cell hlt2
          rw [Pl.F_get ks m hlt2] at e2
          have e4 := (RW.get (i := 5) rfl).cell hfl
          rw [Pl.first_key ks m hlt2] at e4
          have e5 := (RW.get (i := 1) rfl).cell hlt2
          have e7 := (RW.get (i := 3) rfl).cell hlt2
          rw [Pl.C_at2 ks m hlt2] at e7
          have ekey : ∀ j, j < ks.length → wo2.cell? ⟨gk, j, none⟩ = some (.int .i64 (ks.getD j 0)) := fun j hj => (RW.get (i := 5) rfl).cell hj
          have HEK : Hid (∀ j, j < ks.length → wo2.cell? ⟨gk, j, none⟩ = some (.int .i64 (ks.getD j 0))) := ekey
          have hcl : ks.count ((Pl.D ks).getD m 0) ≤ ks.length := List.count_le_length
          clear RW ekey
          generalize ks.idxOf ((Pl.D ks).getD m 0) = fm at *
          obtain ⟨z, hz⟩ : ∃ z, z = (Pl.D ks).getD m 0 := ⟨_, rfl⟩
          rw [← hz] at e4 e5 e7 hcl
          clear hz
          have y1 : (0 : Int) ≤ (m : Int) := by omega
          have y2 : (m : Int) < ((Pl.D ks).length : Int) := by omega
          obtain ⟨cn, hcn⟩ : ∃ cn, cn = ks.count z := ⟨_, rfl⟩
          rw [← hcn] at e7 hcl
          have HCN : Hid (cn = ks.count z) := hcn
          clear hcn
          go_wp2
          go_loop [26, 27] (fun t i => ∃ j : Nat, j ≤ ks.length ∧ i = .int .i64 j ∧ t = .int .i64 ((ks.take j).count z)) (fun _ i => ks.length - (intOf i).toNat)
          case atStart => exact ⟨0, Nat.zero_le _, rfl, by simp⟩
          case round =>
            obtain ⟨j, hj, rfl, rfl⟩ := hrel
            by_cases hlt3 : j < ks.length
            · have ej := HEK.out j hlt3
              have hct : (ks.take j).count z ≤ (ks.take j).length := List.count_le_length
              rw [List.length_take] at hct
              have hsn := Pl.count_snoc ks j hlt3 z
              have HSN : Hid ((ks.take (j + 1)).count z = (ks.take j).count z + if ks.getD j 0 = z then 1 else 0) := hsn
              clear hsn
              obtain ⟨zj, hzj⟩ : ∃ zj, zj = ks.getD j 0 := ⟨_, rfl⟩
              rw [← hzj] at ej
              have HZJ : Hid (zj = ks.getD j 0) := hzj
              clear hzj
              by_cases heq : zj = z
              · subst heq
                go_wp2
                go_round
                case rel => exact ⟨j + 1, by omega, by go_num, by rw [HSN.out, if_pos HZJ.out.symm]; go_num⟩
                case measure => simp [intOf]; omega
              · have hne : (zj == z) = false := by simpa using heq
                go_wp2
                go_round
                case rel => exact ⟨j + 1, by omega, by go_num, by rw [HSN.out, if_neg (by rw [← HZJ.out]; exact heq)]; go_num⟩
                case measure => simp [intOf]; omega
            · obtain rfl : j = ks.length := by omega
              rw [List.take_length, ← HCN.out]
              go_wp2
              go_quiet (fail)
              go_wp2
              go_roundw
              case rel => exact ⟨m + 1, by omega, by go_num, hkept2.next (Kept.drewN _ _)⟩
              case measure => simp [intOf]; omega
        · obtain rfl : m = (Pl.D ks).length := by omega
          have hz : allZ (List.replicate L 0) = true := replicate_allZ L
          have HRD2 : Hid (Rd .i64 wo2 es (List.replicate L 0)) := (RW.get (i := 0) rfl).rd
          have HKK : Hid (Kept [] w2 wo2) := K9.next hkept2
          have hL0 := HLL.out
          by_cases hmv : n0 < v
          · have hd1 : decide ((n0 : Int) < (v : Int)) = true := by simp; omega
            obtain rfl : L = v := by omega
            clear hL0 RW
            go_wp2_with fail
            refine (allZero_any es L fs (List.replicate L 0) _ (by simp) (by omega) HRD2.out).mono ?_
            rintro e y ⟨rfl, rfl⟩
            rw [hz]
            go_wp2_with fail
            go_ret
            exact ⟨rfl, HKK.out.below (Nat.le_refl _) (by simp)⟩
          · have hd1 : decide ((n0 : Int) < (v : Int)) = false := by simp; omega
            obtain rfl : L = n0 := by omega
            clear hL0 RW
            go_wp2_with fail
            refine (allZero_any es L fs (List.replicate L 0) _ (by simp) (by omega) HRD2.out).mono ?_
            rintro e y ⟨rfl, rfl⟩
            rw [hz]
            go_wp2_with fail
            go_ret
            exact ⟨rfl, HKK.out.below (Nat.le_refl _) (by simp)⟩

end Go.Proofs.Qxb6601940a
