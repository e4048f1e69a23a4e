import Derived.Test.Qxb6601940aNumB
namespace Go.Proofs.Qxb6601940a
open Go.RowKit
set_option linter.unusedVariables false

/-- The rows behind a 'seen' made anew and laid into the struct. -/
theorem made_rows {sb B v H : Nat} {s0 x1 x2 x3 r0 r1 r2 r3 : Value} {n0 n1 n2 n3 n4 : Nat} {xs0 xs1 xs2 xs3 xs4 : List Int} {w w1 W : World}
    (hrows : Rows5 3 w B [(r0, n0, xs0), (r1, n1, xs1), (r2, n2, xs2), (r3, n3, xs3), (s0, n4, xs4)]) (K1 : Kept [] w w1)
    (hown : Own 3 .i64 w1 B (.slice (some ⟨H, 0, none⟩) v v) v (List.replicate v 0)) (hH : w.heap.size ≤ H) (hb : w1.heap[sb]? = some (.cells #[r0, x1, x2, x3] 72 (0, 0))) (hW : W = w1.setCell ⟨sb, 0, none⟩ (.slice (some ⟨H, 0, none⟩) v v)) :
    W.heap[sb]? = some (.cells #[.slice (some ⟨H, 0, none⟩) v v, x1, x2, x3] 72 (0, 0)) ∧ Rows5 3 W B [(.slice (some ⟨H, 0, none⟩) v v, v, List.replicate v 0), (r1, n1, xs1), (r2, n2, xs2), (r3, n3, xs3), (s0, n4, xs4)] ∧
    Kept (some sb :: blocks [(r0, n0, xs0), (r1, n1, xs1), (r2, n2, xs2), (r3, n3, xs3), (s0, n4, xs4)]) w W ∧
    ∀ (i : Nat) r, [(Value.slice (some ⟨H, 0, none⟩) v v, v, List.replicate v (0 : Int)), (r1, n1, xs1), (r2, n2, xs2), (r3, n3, xs3), (s0, n4, xs4)][i]? = some r → ∀ g, r.1.ownBlock = some g → g < w.heap.size → some g ∈ blocks [(r0, n0, xs0), (r1, n1, xs1), (r2, n2, xs2), (r3, n3, xs3), (s0, n4, xs4)] := by
  subst hW
  have k1 : Kept [some sb] w1 (w1.setCell ⟨sb, 0, none⟩ (.slice (some ⟨H, 0, none⟩) v v)) := ⟨rfl, rfl, rfl, by simp [World.setCell], fun k _ hk => Below.heap_setCell _ _ _ _ (fun e => hk (by simp [e]))⟩
  have t1 := Turn.upd hrows (i := 0) (r2 := (.slice (some ⟨H, 0, none⟩) v v, v, List.replicate v 0)) rfl (K1.mono (by simp)) hown (by
    intro g hg hlt
    have e1 : H = g := by simpa [Value.ownBlock] using hg
    omega)
  have hr := t1.rows
  refine ⟨by simpa using heap_setCell_same w1 sb 0 _ 72 (.slice (some ⟨H, 0, none⟩) v v) hb, ⟨fun i r hi => (hr.1 i r hi).kept k1 ?_, hr.2⟩, (t1.kept.mono (fun k _ hk => List.mem_cons_of_mem _ hk)).trans k1 ?_, t1.loc⟩
  · intro g hg hm
    simp only [List.mem_cons, Option.some.injEq, List.not_mem_nil, or_false] at hm
    subst hm
    exact hr.off hb (mem_blocks.2 ⟨i, r, hi, hg⟩)
  · intro k hk _
    simp only [List.mem_cons, List.not_mem_nil, or_false] at hk
    rw [hk]; exact List.mem_cons_self

set_option maxHeartbeats 1000000 in
theorem number_made (sb : Nat) (b0 : Option Addr) (m0 d0 : Nat) (a1 : Option Addr) (n1 c1 : Nat) (a2 : Option Addr) (n2 c2 : Nat) (a3 : Option Addr) (n3 c3 : Nat) (a4 : Option Addr) (c4 : Nat) (v : Nat) (ks xs1 xs2 xs3 : List Int) (B : Nat) (w : World)
    (hn : m0 < v) (hv : v ≤ 65536) (hn0 : m0 ≤ 2000000) (hn4 : ks.length ≤ 2000000) (hB : B ≤ w.heap.size) (hks : ∀ j, j < ks.length → 0 ≤ ks.getD j 0 ∧ ks.getD j 0 < v)
    (hsb : w.heap[sb]? = some (.cells #[.slice b0 m0 d0, .slice a1 n1 c1, .slice a2 n2 c2, .slice a3 n3 c3] 72 (0, 0)))
    (hrows : Rows5 3 w B [(.slice b0 m0 d0, m0, List.replicate m0 0), (.slice a1 n1 c1, n1, xs1), (.slice a2 n2 c2, n2, xs2), (.slice a3 n3 c3, n3, xs3), (.slice a4 ks.length c4, ks.length, ks)]) :
    Calls Try.prog 42 #[.pointer (some ⟨sb, 0, none⟩), .slice a4 ks.length c4, .int .i64 v] w fun e w' => e = .returned (.tuple #[]) ∧ NumPost sb B v (.slice a4 ks.length c4) ks [(.slice b0 m0 d0, m0, List.replicate m0 0), (.slice a1 n1 c1, n1, xs1), (.slice a2 n2 c2, n2, xs2), (.slice a3 n3 c3, n3, xs3), (.slice a4 ks.length c4, ks.length, ks)] w w' := by
  have r1 := fun w => run_cut0 w a1 n1 c1 (hrows.get (i := 1) rfl).addr
  have r2 := fun w => run_cut0 w a2 n2 c2 (hrows.get (i := 2) rfl).addr
  have r3 := fun w => run_cut0 w a3 n3 c3 (hrows.get (i := 3) rfl).addr
  obtain ⟨i0, hi, hz0, hz1, hz2⟩ := info_parts Try.info3
  have HKS : Hid (∀ j, j < ks.length → 0 ≤ ks.getD j 0 ∧ ks.getD j 0 < v) := hks
  clear hks
  obtain ⟨n, hnn⟩ : ∃ n, n = ks.length := ⟨_, rfl⟩
  have HN : Hid (n = ks.length) := hnn
  have el : Value.slice a4 ks.length c4 = Value.slice a4 n c4 := by rw [← hnn]
  rw [← hnn] at hn4
  rw [show #[Value.pointer (some ⟨sb, 0, none⟩), Value.slice a4 ks.length c4, Value.int .i64 v] = #[Value.pointer (some ⟨sb, 0, none⟩), Value.slice a4 n c4, Value.int .i64 v] from by rw [el]]
  clear hnn el
  have HSB0 : Hid (w.heap[sb]? = some (.cells #[.slice b0 m0 d0, .slice a1 n1 c1, .slice a2 n2 c2, .slice a3 n3 c3] 72 (0, 0))) := hsb
  have hlts : sb < w.heap.size := (Array.getElem?_eq_some_iff.1 hsb).1
  have q00 : w.cell? ⟨sb, 0, none⟩ = some (.slice b0 m0 d0) := cell_of_row w sb 0 _ 72 (0, 0) hsb
  have hd : decide (m0 < v) = true := by simp; omega
  clear hsb
  go_enter Try.func42, Try.ntmps42
  go_wp2_with (first | (at_make; refine wpList_make_full _ rfl _ _ 35 rfl B 3 i0 (.int .i64 0) 1 Try.underlying35 hi hz0 hz1 _ _ _ _ v rfl rfl rfl rfl (by rw [hz2]; omega) (by unfold maxLen; omega) hB ?_; intro w1 hown1 hgrow1; have K1 := Kept.ofNew hgrow1; have HB1 : Hid (w1.heap[sb]? = some (.cells #[.slice b0 m0 d0, .slice a1 n1 c1, .slice a2 n2 c2, .slice a3 n3 c3] 72 (0, 0))) := (K1.block sb hlts (by simp)).trans HSB0.out; have p0 : w1.cell? ⟨sb, 0, none⟩ = some (.slice b0 m0 d0) := cell_of_row w1 sb 0 _ 72 (0, 0) HB1.out; have f0 : w1.frozen? ⟨sb, 0, none⟩ = false := frozen_of_row w1 sb 0 _ 72 HB1.out))
  obtain ⟨H, hH⟩ : ∃ H, H = w.heap.size := ⟨_, rfl⟩
  rw [← hH] at hown1 ⊢
  obtain ⟨W, hW⟩ : ∃ W, W = w1.setCell ⟨sb, 0, none⟩ (.slice (some ⟨H, 0, none⟩) v v) := ⟨_, rfl⟩
  rw [← hW]
  obtain ⟨hsbW, hr1, kW, hlocW⟩ := made_rows hrows K1 (own_made (by have h := hown1; rw [Nat.mul_one] at h; exact h)) (by omega) HB1.out hW
  have HSB : Hid (W.heap[sb]? = some (.cells #[.slice (some ⟨H, 0, none⟩) v v, .slice a1 n1 c1, .slice a2 n2 c2, .slice a3 n3 c3] 72 (0, 0))) := hsbW
  have HW : Hid (Kept (some sb :: blocks [(.slice b0 m0 d0, m0, List.replicate m0 0), (.slice a1 n1 c1, n1, xs1), (.slice a2 n2 c2, n2, xs2), (.slice a3 n3 c3, n3, xs3), (.slice a4 ks.length c4, ks.length, ks)]) w W) := kW
  have H1 : Rows5 3 W B (five v (.slice (some ⟨H, 0, none⟩) v v) (.slice a1 0 c1) (.slice a2 0 c2) (.slice a3 0 c3) (.slice a4 ks.length c4) ks 0) := by
    rw [five_start]
    have t1 := Turn.upd hr1 (i := 1) (r2 := (.slice a1 0 c1, 0, [])) rfl (Kept.refl _ _) (hr1.get (i := 1) rfl).cut0 (fun g hg _ => by rw [← hg]; exact ownBlock_same _ _ _ _ _)
    have t2 := Turn.upd t1.rows (i := 2) (r2 := (.slice a2 0 c2, 0, [])) rfl (Kept.refl _ _) (hr1.get (i := 2) rfl).cut0 (fun g hg _ => by rw [← hg]; exact ownBlock_same _ _ _ _ _)
    have t3 := Turn.upd t2.rows (i := 3) (r2 := (.slice a3 0 c3, 0, [])) rfl (Kept.refl _ _) (hr1.get (i := 3) rfl).cut0 (fun g hg _ => by rw [← hg]; exact ownBlock_same _ _ _ _ _)
    exact t3.rows
  have HLOC : Hid (∀ (i : Nat) r, (five v (.slice (some ⟨H, 0, none⟩) v v) (.slice a1 0 c1) (.slice a2 0 c2) (.slice a3 0 c3) (.slice a4 ks.length c4) ks 0)[i]? = some r → ∀ g, r.1.ownBlock = some g → g < w.heap.size → some g ∈ blocks [(.slice b0 m0 d0, m0, List.replicate m0 0), (.slice a1 n1 c1, n1, xs1), (.slice a2 n2 c2, n2, xs2), (.slice a3 n3 c3, n3, xs3), (.slice a4 ks.length c4, ks.length, ks)]) := by
    intro i r hi g hg hlt
    rw [five_start] at hi
    match i, hi with
    | 0, hi => exact hlocW 0 _ rfl g (by simp at hi; subst hi; exact hg) hlt
    | 1, hi => exact hlocW 1 _ rfl g (by simp at hi; subst hi; rw [← hg]; exact ownBlock_same _ _ _ _ _) hlt
    | 2, hi => exact hlocW 2 _ rfl g (by simp at hi; subst hi; rw [← hg]; exact ownBlock_same _ _ _ _ _) hlt
    | 3, hi => exact hlocW 3 _ rfl g (by simp at hi; subst hi; rw [← hg]; exact ownBlock_same _ _ _ _ _) hlt
    | 4, hi => exact hlocW 4 _ rfl g (by simp at hi; subst hi; exact hg) hlt
    | _ + 5, hi => simp at hi
  have q0 : W.cell? ⟨sb, 0, none⟩ = some (.slice (some ⟨H, 0, none⟩) v v) := cell_of_row W sb 0 _ 72 (0, 0) HSB.out
  have q1 : W.cell? ⟨sb, 1, none⟩ = some (.slice a1 n1 c1) := cell_of_row W sb 1 _ 72 (0, 0) HSB.out
  have q2 : W.cell? ⟨sb, 2, none⟩ = some (.slice a2 n2 c2) := cell_of_row W sb 2 _ 72 (0, 0) HSB.out
  have q3 : W.cell? ⟨sb, 3, none⟩ = some (.slice a3 n3 c3) := cell_of_row W sb 3 _ 72 (0, 0) HSB.out
  have hBW : B ≤ W.heap.size := Nat.le_trans hB kW.size
  have HH : Hid (H = w.heap.size) := hH
  clear hrows hr1 hsbW kW hlocW p0 f0 hown1 hgrow1 K1 HB1 hW q00 hH
  go_quiet (fail)
  go_wp2
  go_loopw [7, 8, 9, 47] (fun vv vf vc i wr => ∃ k : Nat, k ≤ n ∧ i = .int .i64 k ∧ NR v (some ⟨H, 0, none⟩) v a4 c4 ks B (five v (.slice (some ⟨H, 0, none⟩) v v) (.slice a1 0 c1) (.slice a2 0 c2) (.slice a3 0 c3) (.slice a4 ks.length c4) ks 0) W k vv vf vc wr) (fun _ _ _ i _ => n - (intOf i).toNat)
  case atStart => exact ⟨0, Nat.zero_le _, rfl, Turn.keep H1 (Kept.drewN _ _)⟩
  case round =>
    obtain ⟨k, hk, rfl, hnr⟩ := hrel
    by_cases hlt : k < n
    · have hlk : k < ks.length := by rw [← HN.out]; exact hlt
      obtain ⟨hu0, hu1⟩ := HKS.out k hlk
      obtain ⟨un, hun⟩ := Int.eq_ofNat_of_zero_le hu0
      have hul : un < v := by omega
      have HU : Hid (ks.getD k 0 = (un : Int)) := hun
      clear hu0 hu1 hun
      obtain ⟨gk, ck', hv4, _⟩ := (hnr.rows.get (i := 4) rfl).pos (by omega)
      simp only [Value.slice.injEq] at hv4
      obtain ⟨rfl, _, rfl⟩ := hv4
      have ck := (hnr.rows.get (i := 4) rfl).cell hlk
      rw [keys_at hlk, HU.out] at ck
      have fk := (hnr.rows.get (i := 4) rfl).fr k
      have cs := (hnr.rows.get (i := 0) rfl).cell hul
      rw [Pl.S_at _ _ _ hul] at cs
      have fs := (hnr.rows.get (i := 0) rfl).fr un
      have ne1 : H ≠ gk := hnr.rows.ne (i := 0) (j := 4) rfl rfl (by decide)
      by_cases hm : (un : Int) ∈ ks.take k
      · rw [if_pos hm] at cs
        have hm' : ks.getD k 0 ∈ ks.take k := by rw [HU.out]; exact hm
        have hil := Pl.idx_lt hm
        have hDl := Pl.length_D (ks.take k)
        have htl : (ks.take k).length = k := by simp; omega
        obtain ⟨gc, cc, rfl, _⟩ := (hnr.rows.get (i := 3) rfl).pos (by omega)
        have c3 := (hnr.rows.get (i := 3) rfl).cell hil
        rw [Pl.C_at hm] at c3
        have f3 := (hnr.rows.get (i := 3) rfl).fr ((Pl.D (ks.take k)).idxOf (un : Int))
        have ne2 : H ≠ gc := hnr.rows.ne (i := 0) (j := 3) rfl rfl (by decide)
        have ne3 : gk ≠ gc := hnr.rows.ne (i := 4) (j := 3) rfl rfl (by decide)
        have hcnt : (ks.take k).count (un : Int) ≤ (ks.take k).length := List.count_le_length
        have R := NR.old hnr hlk hm'
        rw [HU.out] at R
        have HR : Hid (NR _ _ _ _ _ _ _ _ _ _ _ _ _ _) := R
        clear R hnr hm hm'
        rw [htl] at hDl hcnt
        clear htl
        generalize (ks.take k).count (un : Int) = cn at *
        generalize (Pl.D (ks.take k)).idxOf (un : Int) = ix at *
        generalize (Pl.D (ks.take k)).length = dl at *
        go_wp2
        go_roundw
        case rel => exact ⟨k + 1, by omega, by go_num, HR.out⟩
        case measure => simp [intOf]; omega
      · rw [if_neg hm] at cs
        have hDl := Pl.length_D (ks.take k)
        have htl : (ks.take k).length = k := by simp; omega
        rw [htl] at hDl
        clear htl
        have hsz := hnr.kept.size
        have hsb2 : B ≤ wr.heap.size := by omega
        go_wp2_with (first
          | (at_builtin; refine wpList_append_lies _ rfl (.tmp 57) (.tmp 59) 35 rfl B 3 i0 (.int .i64 0) 1 8 Try.underlying35 hi hz0 hz1 hz2 rfl (by decide) _ (Pl.D (ks.take k)).length ((Pl.D (ks.take k)).map (Value.int .i64)) rfl (World.ownsRow.alloc (hnr.rows.get (i := 1) rfl) _) ⟨wr.heap.size, 0, none⟩ 1 1 [.int .i64 (un : Int)] rfl rfl (cell_one_new _ _ _) (ints_oneCell .i64 [(un : Int)]) (by decide) (by unfold maxLen; omega) (by omega) (by simp; omega) (wr.heap.size + 1) (by simp) ?_; intro g1 k1 w1 hown1 hgrow1 hat1 hlt1; have t1 := Turn.app hnr.rows (i := 1) rfl hown1 hgrow1 hat1; have s1 := t1.kept.size; clear hown1 hgrow1 hat1)
          | (at_builtin; refine wpList_append_lies _ rfl (.tmp 61) (.tmp 63) 35 rfl B 3 i0 (.int .i64 0) 1 8 Try.underlying35 hi hz0 hz1 hz2 rfl (by decide) _ (Pl.D (ks.take k)).length ((Pl.F (ks.take k)).map (Value.int .i64)) rfl (World.ownsRow.alloc (t1.rows.get (i := 2) rfl) _) ⟨w1.heap.size, 0, none⟩ 1 1 [.int .i64 (k : Int)] rfl rfl (cell_one_new _ _ _) (ints_oneCell .i64 [(k : Int)]) (by decide) (by unfold maxLen; omega) (by omega) (by simp; omega) (w1.heap.size + 1) (by simp) ?_; intro g2 k2 w2 hown2 hgrow2 hat2 hlt2; have t2 := Turn.app t1.rows (i := 2) rfl hown2 hgrow2 hat2; have s2 := t2.kept.size; clear hown2 hgrow2 hat2)
          | (at_builtin; refine wpList_append_lies _ rfl (.tmp 65) (.tmp 66) 35 rfl B 3 i0 (.int .i64 0) 1 8 Try.underlying35 hi hz0 hz1 hz2 rfl (by decide) _ (Pl.D (ks.take k)).length ((Pl.C (ks.take k)).map (Value.int .i64)) rfl (World.ownsRow.alloc (t2.rows.get (i := 3) rfl) _) ⟨w2.heap.size, 0, none⟩ 1 1 [.int .i64 0] rfl rfl (cell_one_new _ _ _) (ints_oneCell .i64 [0]) (by decide) (by unfold maxLen; omega) (by omega) (by simp; omega) (w2.heap.size + 1) (by simp) ?_; intro g3 k3 w3 hown3 hgrow3 hat3 hlt3; have t3 := Turn.app t2.rows (i := 3) rfl hown3 hgrow3 hat3; have s3 := t3.kept.size; have cs3 := (t3.rows.get (i := 0) rfl).cell hul; rw [Pl.S_at _ _ _ hul, if_neg hm] at cs3; have fs3 := (t3.rows.get (i := 0) rfl).fr un; have ck3 := (t3.rows.get (i := 4) rfl).cell hlk; rw [keys_at hlk, HU.out] at ck3; have fk3 := (t3.rows.get (i := 4) rfl).fr k; have cc3 := (t3.rows.get (i := 3) rfl).cell (Nat.lt_succ_self _); rw [last_zero] at cc3; have fc3 := (t3.rows.get (i := 3) rfl).fr (Pl.D (ks.take k)).length; have ne2 : H ≠ g3 := t3.rows.ne (i := 0) (j := 3) rfl rfl (by decide); have ne3 : gk ≠ g3 := t3.rows.ne (i := 4) (j := 3) rfl rfl (by decide); have R := NR.fresh hnr hlk HU.out hm t1 rfl t2 rfl t3 rfl; have HR : Hid (NR _ _ _ _ _ _ _ _ _ _ _ _ _ _) := R; clear R hown3 hgrow3 hat3 t1 t2 t3))
        go_roundw
        case rel => exact ⟨k + 1, by omega, by go_num, HR.out⟩
        case measure => simp [intOf]; omega
    · obtain rfl : k = n := by omega
      obtain ⟨wo, rfl⟩ : ∃ wo : World, wo = wr := ⟨_, rfl⟩
      obtain ⟨av, cv, rfl⟩ := (hnr.rows.get (i := 1) rfl).slice
      go_wp2
      go_loopw [93] (fun i wr => ∃ j : Nat, j ≤ (Pl.D ks).length ∧ i = .int .i64 j ∧ Turn 3 B (five v (.slice (some ⟨H, 0, none⟩) v v) (.slice a1 0 c1) (.slice a2 0 c2) (.slice a3 0 c3) (.slice a4 ks.length c4) ks 0) (swept v (.slice (some ⟨H, 0, none⟩) v v) (.slice av (Pl.D (ks.take k)).length cv) u8 u9 (.slice a4 ks.length c4) ks j) W wr) (fun i _ => (Pl.D ks).length - (intOf i).toNat)
      case atStart =>
        refine ⟨0, Nat.zero_le _, rfl, ?_⟩
        have e1 : ks.take k = ks := by rw [HN.out]; simp
        have e2 : five v (.slice (some ⟨H, 0, none⟩) v v) (.slice av (Pl.D (ks.take k)).length cv) u8 u9 (.slice a4 ks.length c4) ks k = swept v (.slice (some ⟨H, 0, none⟩) v v) (.slice av (Pl.D (ks.take k)).length cv) u8 u9 (.slice a4 ks.length c4) ks 0 := by
          unfold five swept
          rw [Pl.Z_zero, e1]
          rw [show ks.drop k = [] from by rw [HN.out]; simp, List.append_nil]
        rw [← e2]
        exact hnr
      case round =>
        obtain ⟨j, hj, rfl, ht⟩ := hrel
        have e1 : ks.take k = ks := by rw [HN.out]; simp
        rw [e1] at ht ⊢
        by_cases hlt2 : j < (Pl.D ks).length
        · have hdm : (Pl.D ks).getD j 0 ∈ ks := by
            rw [← Pl.mem_D]; simp [List.getD, hlt2]
          obtain ⟨jj, hjj, hje⟩ := List.getElem_of_mem hdm
          have hkj := HKS.out jj hjj
          have hje2 : ks.getD jj 0 = (Pl.D ks).getD j 0 := by simpa [List.getD, hjj] using hje
          rw [hje2] at hkj
          obtain ⟨un, hun⟩ := Int.eq_ofNat_of_zero_le hkj.1
          have hul : un < v := by omega
          obtain ⟨gv, cv', hv1, _⟩ := (ht.rows.get (i := 1) rfl).pos (by omega)
          simp only [Value.slice.injEq] at hv1
          obtain ⟨rfl, _, rfl⟩ := hv1
          have c1 := (ht.rows.get (i := 1) rfl).cell hlt2
          rw [hun] at c1
          have cs := (ht.rows.get (i := 0) rfl).cell hul
          have fs := (ht.rows.get (i := 0) rfl).fr un
          have T := ht.trans (Turn.store ht.rows (i := 0) rfl un 0)
          rw [show (swept v (.slice (some ⟨H, 0, none⟩) v v) (.slice (some ⟨gv, 0, none⟩) (Pl.D ks).length cv) u8 u9 (.slice a4 ks.length c4) ks j).set 0 (.slice (some ⟨H, 0, none⟩) v v, v, (Pl.Z v ks j).set un 0) = swept v (.slice (some ⟨H, 0, none⟩) v v) (.slice (some ⟨gv, 0, none⟩) (Pl.D ks).length cv) u8 u9 (.slice a4 ks.length c4) ks (j + 1) from by
            unfold swept; rw [← Pl.Z_step v ks j hlt2 un hun]; rfl] at T
          have HT : Hid (Turn _ _ _ _ _ _) := T
          have hDl : (Pl.D ks).length ≤ ks.length := Pl.length_D ks
          rw [← HN.out] at hDl
          clear T ht hnr H1 hdm hje hje2 hkj hun
          go_wp2
          go_roundw
          case rel => exact ⟨j + 1, by omega, by go_num, HT.out⟩
          case measure => simp [intOf]; omega
        · obtain rfl : j = (Pl.D ks).length := by omega
          obtain ⟨a8, c8, rfl⟩ := (ht.rows.get (i := 2) rfl).slice
          obtain ⟨a9, c9, rfl⟩ := (ht.rows.get (i := 3) rfl).slice
          have hoff := H1.off HSB.out
          have hlts : sb < W.heap.size := (Array.getElem?_eq_some_iff.1 HSB.out).1
          have hb : wr.heap[sb]? = some (.cells #[.slice (some ⟨H, 0, none⟩) v v, .slice a1 n1 c1, .slice a2 n2 c2, .slice a3 n3 c3] 72 (0, 0)) := (ht.kept.block sb hlts hoff).trans HSB.out
          have p1 : wr.cell? ⟨sb, 1, none⟩ = some (.slice a1 n1 c1) := cell_of_row wr sb 1 _ 72 (0, 0) hb
          have p2 : wr.cell? ⟨sb, 2, none⟩ = some (.slice a2 n2 c2) := cell_of_row wr sb 2 _ 72 (0, 0) hb
          have p3 : wr.cell? ⟨sb, 3, none⟩ = some (.slice a3 n3 c3) := cell_of_row wr sb 3 _ 72 (0, 0) hb
          have f1 : wr.frozen? ⟨sb, 1, none⟩ = false := frozen_of_row wr sb 1 _ 72 hb
          have f2 : wr.frozen? ⟨sb, 2, none⟩ = false := frozen_of_row wr sb 2 _ 72 hb
          have f3 : wr.frozen? ⟨sb, 3, none⟩ = false := frozen_of_row wr sb 3 _ 72 hb
          go_wp2
          go_end0
          rw [swept_end] at ht
          exact ⟨rfl, num_post HW.out HLOC.out ht hb⟩

end Go.Proofs.Qxb6601940a
