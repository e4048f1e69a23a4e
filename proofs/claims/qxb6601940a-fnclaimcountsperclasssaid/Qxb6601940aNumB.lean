import Derived.Test.Qxb6601940aNumA
namespace Go.Proofs.Qxb6601940a
open Go.RowKit
set_option linter.unusedVariables false

theorem five_start (L : Nat) (vs vv vf vc vk : Value) (ks : List Int) : five L vs vv vf vc vk ks 0 = [(vs, L, List.replicate L 0), (vv, 0, []), (vf, 0, []), (vc, 0, []), (vk, ks.length, ks)] := by
  simp only [five, List.take_zero, Pl.D_nil, Pl.S_nil, List.length_nil, Pl.F, Pl.C, Pl.Wk, List.map_nil, List.nil_append, List.drop_zero]

theorem ownBlock_same (a : Option Addr) (n c n' c' : Nat) : (Value.slice a n c).ownBlock = (Value.slice a n' c').ownBlock := by cases a <;> rfl

/-- The five rows while 'seen' is swept. -/
def swept (L : Nat) (vs vv vf vc vk : Value) (ks : List Int) (j : Nat) : List (Value × Nat × List Int) :=
  [(vs, L, Pl.Z L ks j), (vv, (Pl.D ks).length, Pl.D ks), (vf, (Pl.D ks).length, Pl.F ks), (vc, (Pl.D ks).length, Pl.C ks), (vk, ks.length, Pl.Wk ks)]

theorem Own.row {e : TypeId} {k : IntKind} {w : World} {B : Nat} {v : Value} {n : Nat} {xs : List Int} (h : Own e k w B v n xs) {g : Nat} (hg : v.ownBlock = some g) : ∃ cur, w.heap[g]? = some (.cells cur e (0, 0)) := by
  rcases h.2 with ⟨rfl, _⟩ | ⟨g', cap, cur, rfl, _, hgg, _⟩
  · simp [Value.ownBlock] at hg
  · have e1 : g' = g := by simpa [Value.ownBlock] using hg
    subst e1
    exact ⟨cur, hgg⟩
theorem Rows5.off {w : World} {B : Nat} {l : List (Value × Nat × List Int)} {sb : Nat} {cs : Array Value} {fr : Nat × Nat} (h : Rows5 3 w B l) (hsb : w.heap[sb]? = some (.cells cs 72 fr)) : some sb ∉ blocks l := by
  intro hm
  obtain ⟨i, r, hi, he⟩ := mem_blocks.1 hm
  obtain ⟨cur, hc⟩ := (h.1 i r hi).row he
  rw [hsb] at hc
  simp at hc

theorem last_zero (ks : List Int) : (Pl.C ks ++ [0]).getD (Pl.D ks).length 0 = 0 := by
  have e : (Pl.C ks).length = (Pl.D ks).length := by simp [Pl.C]
  simp [List.getD, ← e]

/-- The rows as a numbering leaves them. -/
def numbered (L : Nat) (vs vv vf vc vk : Value) (ks : List Int) : List (Value × Nat × List Int) :=
  [(vs, L, List.replicate L 0), (vv, (Pl.D ks).length, Pl.D ks), (vf, (Pl.D ks).length, Pl.F ks), (vc, (Pl.D ks).length, Pl.C ks), (vk, ks.length, Pl.Wk ks)]
theorem swept_end (L : Nat) (vs vv vf vc vk : Value) (ks : List Int) : swept L vs vv vf vc vk ks (Pl.D ks).length = numbered L vs vv vf vc vk ks := by
  unfold swept numbered; rw [Pl.Z_end]

/-- The struct's own stores. -/
theorem struct_end {B : Nat} {l : List (Value × Nat × List Int)} {wr : World} {sb : Nat} {s0 x1 x2 x3 : Value} (hr : Rows5 3 wr B l) (hb : wr.heap[sb]? = some (.cells #[s0, x1, x2, x3] 72 (0, 0))) (v1 v2 v3 : Value) :
    (((wr.setCell ⟨sb, 1, none⟩ v1).setCell ⟨sb, 2, none⟩ v2).setCell ⟨sb, 3, none⟩ v3).heap[sb]? = some (.cells #[s0, v1, v2, v3] 72 (0, 0)) ∧
    Rows5 3 (((wr.setCell ⟨sb, 1, none⟩ v1).setCell ⟨sb, 2, none⟩ v2).setCell ⟨sb, 3, none⟩ v3) B l ∧ Kept [some sb] wr (((wr.setCell ⟨sb, 1, none⟩ v1).setCell ⟨sb, 2, none⟩ v2).setCell ⟨sb, 3, none⟩ v3) := by
  have k : ∀ (w : World) (j : Nat) (v : Value), Kept [some sb] w (w.setCell ⟨sb, j, none⟩ v) := fun w j v => ⟨rfl, rfl, rfl, by simp [World.setCell], fun k _ hk => Below.heap_setCell _ _ _ _ (fun e => hk (by simp [e]))⟩
  have h1 := heap_setCell_same wr sb 1 _ 72 v1 hb
  have h2 := heap_setCell_same _ sb 2 _ 72 v2 h1
  have h3 := heap_setCell_same _ sb 3 _ 72 v3 h2
  have kk := ((k wr 1 v1).trans (k _ 2 v2) (by intro k hk _; exact hk)).trans (k _ 3 v3) (by intro k hk _; exact hk)
  refine ⟨by simpa using h3, ⟨fun i r hi => (hr.1 i r hi).kept kk ?_, hr.2⟩, kk⟩
  intro g hg hm
  simp only [List.mem_cons, Option.some.injEq, List.not_mem_nil, or_false] at hm
  subst hm
  exact hr.off hb (mem_blocks.2 ⟨i, r, hi, hg⟩)

/-- What a numbering leaves. -/
def NumPost (sb B L : Nat) (vk : Value) (ks : List Int) (l : List (Value × Nat × List Int)) (w w' : World) : Prop :=
  ∃ vs vv vf vc, w'.heap[sb]? = some (.cells #[vs, vv, vf, vc] 72 (0, 0)) ∧ Rows5 3 w' B (numbered L vs vv vf vc vk ks) ∧ Kept (some sb :: blocks l) w w' ∧
    ∀ (i : Nat) r, (numbered L vs vv vf vc vk ks)[i]? = some r → ∀ g, r.1.ownBlock = some g → g < w.heap.size → some g ∈ blocks l

theorem num_post {sb B L : Nat} {vs vv vf vc vk x1 x2 x3 : Value} {ks : List Int} {l lw : List (Value × Nat × List Int)} {w W wr : World}
    (hW : Kept (some sb :: blocks l) w W) (hloc : ∀ (i : Nat) r, lw[i]? = some r → ∀ g, r.1.ownBlock = some g → g < w.heap.size → some g ∈ blocks l)
    (T : Turn 3 B lw (numbered L vs vv vf vc vk ks) W wr) (hb : wr.heap[sb]? = some (.cells #[vs, x1, x2, x3] 72 (0, 0))) :
    NumPost sb B L vk ks l w (((wr.setCell ⟨sb, 1, none⟩ vv).setCell ⟨sb, 2, none⟩ vf).setCell ⟨sb, 3, none⟩ vc) := by
  obtain ⟨h1, h2, h3⟩ := struct_end T.rows hb vv vf vc
  refine ⟨vs, vv, vf, vc, h1, h2, (hW.trans T.kept ?_).trans h3 ?_, ?_⟩
  · intro k hk hlt
    obtain ⟨i, r, hi, he⟩ := mem_blocks.1 hk
    exact List.mem_cons_of_mem _ (hloc i r hi k he hlt)
  · intro k hk _
    simp only [List.mem_cons, List.not_mem_nil, or_false] at hk
    rw [hk]; exact List.mem_cons_self
  · intro i r hi g hg hlt
    obtain ⟨i', r', hi', he'⟩ := mem_blocks.1 (T.loc i r hi g hg (Nat.lt_of_lt_of_le hlt hW.size))
    exact hloc i' r' hi' g he' hlt

set_option maxHeartbeats 1000000 in
theorem number_long (sb : Nat) (b0 : Option Addr) (m0 d0 : Nat) (a1 : Option Addr) (n1 c1 : Nat) (a2 : Option Addr) (n2 c2 : Nat) (a3 : Option Addr) (n3 c3 : Nat) (a4 : Option Addr) (c4 : Nat) (v : Nat) (ks xs1 xs2 xs3 : List Int) (B : Nat) (w : World)
    (hn : v ≤ m0) (hv : v ≤ 65536) (hn0 : m0 ≤ 2000000) (hn4 : ks.length ≤ 2000000) (hB : B ≤ w.heap.size) (hks : ∀ j, j < ks.length → 0 ≤ ks.getD j 0 ∧ ks.getD j 0 < v)
    (hsb : w.heap[sb]? = some (.cells #[.slice b0 m0 d0, .slice a1 n1 c1, .slice a2 n2 c2, .slice a3 n3 c3] 72 (0, 0)))
    (hrows : Rows5 3 w B [(.slice b0 m0 d0, m0, List.replicate m0 0), (.slice a1 n1 c1, n1, xs1), (.slice a2 n2 c2, n2, xs2), (.slice a3 n3 c3, n3, xs3), (.slice a4 ks.length c4, ks.length, ks)]) :
    Calls Try.prog 42 #[.pointer (some ⟨sb, 0, none⟩), .slice a4 ks.length c4, .int .i64 v] w fun e w' => e = .returned (.tuple #[]) ∧ NumPost sb B m0 (.slice a4 ks.length c4) ks [(.slice b0 m0 d0, m0, List.replicate m0 0), (.slice a1 n1 c1, n1, xs1), (.slice a2 n2 c2, n2, xs2), (.slice a3 n3 c3, n3, xs3), (.slice a4 ks.length c4, ks.length, ks)] w w' := by
  have r1 := fun w => run_cut0 w a1 n1 c1 (hrows.get (i := 1) rfl).addr
  have r2 := fun w => run_cut0 w a2 n2 c2 (hrows.get (i := 2) rfl).addr
  have r3 := fun w => run_cut0 w a3 n3 c3 (hrows.get (i := 3) rfl).addr
  obtain ⟨i0, hi, hz0, hz1, hz2⟩ := info_parts Try.info3
  have HKS : Hid (∀ j, j < ks.length → 0 ≤ ks.getD j 0 ∧ ks.getD j 0 < v) := hks
  clear hks
  obtain ⟨n, hnn⟩ : ∃ n, n = ks.length := ⟨_, rfl⟩
  have HN : Hid (n = ks.length) := hnn
  have el : Value.slice a4 ks.length c4 = Value.slice a4 n c4 := by rw [← hnn]
  rw [← hnn] at hn4
  rw [show #[Value.pointer (some ⟨sb, 0, none⟩), Value.slice a4 ks.length c4, Value.int .i64 v] = #[Value.pointer (some ⟨sb, 0, none⟩), Value.slice a4 n c4, Value.int .i64 v] from by rw [el]]
  clear hnn el
  obtain ⟨a0, ha0⟩ : ∃ a0, a0 = b0 := ⟨_, rfl⟩
  obtain ⟨n0, hn00⟩ : ∃ n0, n0 = m0 := ⟨_, rfl⟩
  obtain ⟨c0, hc0⟩ : ∃ c0, c0 = d0 := ⟨_, rfl⟩
  subst ha0 hn00 hc0
  obtain ⟨W, hW⟩ : ∃ W, W = w := ⟨_, rfl⟩
  subst hW
  have hr1 := hrows
  have HSB : Hid (W.heap[sb]? = some (.cells #[.slice a0 n0 c0, .slice a1 n1 c1, .slice a2 n2 c2, .slice a3 n3 c3] 72 (0, 0))) := hsb
  have HW : Hid (Kept (some sb :: blocks [(.slice a0 n0 c0, n0, List.replicate n0 0), (.slice a1 n1 c1, n1, xs1), (.slice a2 n2 c2, n2, xs2), (.slice a3 n3 c3, n3, xs3), (.slice a4 ks.length c4, ks.length, ks)]) W W) := Kept.refl _ _
  have H1 : Rows5 3 W B (five n0 (.slice a0 n0 c0) (.slice a1 0 c1) (.slice a2 0 c2) (.slice a3 0 c3) (.slice a4 ks.length c4) ks 0) := by
    rw [five_start]
    have t1 := Turn.upd hr1 (i := 1) (r2 := (.slice a1 0 c1, 0, [])) rfl (Kept.refl _ _) (hr1.get (i := 1) rfl).cut0 (fun g hg _ => by rw [← hg]; exact ownBlock_same _ _ _ _ _)
    have t2 := Turn.upd t1.rows (i := 2) (r2 := (.slice a2 0 c2, 0, [])) rfl (Kept.refl _ _) (hr1.get (i := 2) rfl).cut0 (fun g hg _ => by rw [← hg]; exact ownBlock_same _ _ _ _ _)
    have t3 := Turn.upd t2.rows (i := 3) (r2 := (.slice a3 0 c3, 0, [])) rfl (Kept.refl _ _) (hr1.get (i := 3) rfl).cut0 (fun g hg _ => by rw [← hg]; exact ownBlock_same _ _ _ _ _)
    exact t3.rows
  have HLOC : Hid (∀ (i : Nat) r, (five n0 (.slice a0 n0 c0) (.slice a1 0 c1) (.slice a2 0 c2) (.slice a3 0 c3) (.slice a4 ks.length c4) ks 0)[i]? = some r → ∀ g, r.1.ownBlock = some g → g < W.heap.size → some g ∈ blocks [(.slice a0 n0 c0, n0, List.replicate n0 0), (.slice a1 n1 c1, n1, xs1), (.slice a2 n2 c2, n2, xs2), (.slice a3 n3 c3, n3, xs3), (.slice a4 ks.length c4, ks.length, ks)]) := by
    intro i r hi g hg _
    rw [five_start] at hi
    refine mem_blocks.2 ?_
    match i, hi with
    | 0, hi => exact ⟨0, _, rfl, by simp at hi; subst hi; exact hg⟩
    | 1, hi => exact ⟨1, _, rfl, by simp at hi; subst hi; rw [← hg]; exact ownBlock_same _ _ _ _ _⟩
    | 2, hi => exact ⟨2, _, rfl, by simp at hi; subst hi; rw [← hg]; exact ownBlock_same _ _ _ _ _⟩
    | 3, hi => exact ⟨3, _, rfl, by simp at hi; subst hi; rw [← hg]; exact ownBlock_same _ _ _ _ _⟩
    | 4, hi => exact ⟨4, _, rfl, by simp at hi; subst hi; exact hg⟩
    | _ + 5, hi => simp at hi
  have q0 : W.cell? ⟨sb, 0, none⟩ = some (.slice a0 n0 c0) := cell_of_row W sb 0 _ 72 (0, 0) HSB.out
  have q1 : W.cell? ⟨sb, 1, none⟩ = some (.slice a1 n1 c1) := cell_of_row W sb 1 _ 72 (0, 0) HSB.out
  have q2 : W.cell? ⟨sb, 2, none⟩ = some (.slice a2 n2 c2) := cell_of_row W sb 2 _ 72 (0, 0) HSB.out
  have q3 : W.cell? ⟨sb, 3, none⟩ = some (.slice a3 n3 c3) := cell_of_row W sb 3 _ 72 (0, 0) HSB.out
  have hd : decide (n0 < v) = false := by simp; omega
  clear hsb hrows hr1
  go_enter Try.func42, Try.ntmps42
  go_wp2
  go_quiet (fail)
  go_wp2
  go_loopw [7, 8, 9, 47] (fun vv vf vc i wr => ∃ k : Nat, k ≤ n ∧ i = .int .i64 k ∧ NR n0 a0 c0 a4 c4 ks B (five n0 (.slice a0 n0 c0) (.slice a1 0 c1) (.slice a2 0 c2) (.slice a3 0 c3) (.slice a4 ks.length c4) ks 0) W k vv vf vc wr) (fun _ _ _ i _ => n - (intOf i).toNat)
  case atStart => exact ⟨0, Nat.zero_le _, rfl, Turn.keep H1 (Kept.drewN _ _)⟩
  case round =>
    obtain ⟨k, hk, rfl, hnr⟩ := hrel
    by_cases hlt : k < n
    · have hlk : k < ks.length := by rw [← HN.out]; exact hlt
      obtain ⟨hu0, hu1⟩ := HKS.out k hlk
      obtain ⟨un, hun⟩ := Int.eq_ofNat_of_zero_le hu0
      have hul : un < n0 := by omega
      have HU : Hid (ks.getD k 0 = (un : Int)) := hun
      clear hu0 hu1 hun
      obtain ⟨gs, cs', hv0, _⟩ := (hnr.rows.get (i := 0) rfl).pos (by omega)
      simp only [Value.slice.injEq] at hv0
      obtain ⟨rfl, _, rfl⟩ := hv0
      obtain ⟨gk, ck', hv4, _⟩ := (hnr.rows.get (i := 4) rfl).pos (by omega)
      simp only [Value.slice.injEq] at hv4
      obtain ⟨rfl, _, rfl⟩ := hv4
      have ck := (hnr.rows.get (i := 4) rfl).cell hlk
      rw [keys_at hlk, HU.out] at ck
      have fk := (hnr.rows.get (i := 4) rfl).fr k
      have cs := (hnr.rows.get (i := 0) rfl).cell hul
      rw [Pl.S_at _ _ _ hul] at cs
      have fs := (hnr.rows.get (i := 0) rfl).fr un
      have ne1 : gs ≠ gk := hnr.rows.ne (i := 0) (j := 4) rfl rfl (by decide)
      by_cases hm : (un : Int) ∈ ks.take k
      · rw [if_pos hm] at cs
        have hm' : ks.getD k 0 ∈ ks.take k := by rw [HU.out]; exact hm
        have hil := Pl.idx_lt hm
        have hDl := Pl.length_D (ks.take k)
        have htl : (ks.take k).length = k := by simp; omega
        obtain ⟨gc, cc, rfl, _⟩ := (hnr.rows.get (i := 3) rfl).pos (by omega)
        have c3 := (hnr.rows.get (i := 3) rfl).cell hil
        rw [Pl.C_at hm] at c3
        have f3 := (hnr.rows.get (i := 3) rfl).fr ((Pl.D (ks.take k)).idxOf (un : Int))
        have ne2 : gs ≠ gc := hnr.rows.ne (i := 0) (j := 3) rfl rfl (by decide)
        have ne3 : gk ≠ gc := hnr.rows.ne (i := 4) (j := 3) rfl rfl (by decide)
        have hcnt : (ks.take k).count (un : Int) ≤ (ks.take k).length := List.count_le_length
        have R := NR.old hnr hlk hm'
        rw [HU.out] at R
        have HR : Hid (NR _ _ _ _ _ _ _ _ _ _ _ _ _ _) := R
        clear R hnr hm hm'
        rw [htl] at hDl hcnt
        clear htl
        generalize (ks.take k).count (un : Int) = cn at *
        generalize (Pl.D (ks.take k)).idxOf (un : Int) = ix at *
        generalize (Pl.D (ks.take k)).length = dl at *
        go_wp2
        go_roundw
        case rel => exact ⟨k + 1, by omega, by go_num, HR.out⟩
        case measure => simp [intOf]; omega
      · rw [if_neg hm] at cs
        have hDl := Pl.length_D (ks.take k)
        have htl : (ks.take k).length = k := by simp; omega
        rw [htl] at hDl
        clear htl
        have hsz := hnr.kept.size
        have hsb2 : B ≤ wr.heap.size := by omega
        go_wp2_with (first
          | (at_builtin; refine wpList_append_lies _ rfl (.tmp 57) (.tmp 59) 35 rfl B 3 i0 (.int .i64 0) 1 8 Try.underlying35 hi hz0 hz1 hz2 rfl (by decide) _ (Pl.D (ks.take k)).length ((Pl.D (ks.take k)).map (Value.int .i64)) rfl (World.ownsRow.alloc (hnr.rows.get (i := 1) rfl) _) ⟨wr.heap.size, 0, none⟩ 1 1 [.int .i64 (un : Int)] rfl rfl (cell_one_new _ _ _) (ints_oneCell .i64 [(un : Int)]) (by decide) (by unfold maxLen; omega) (by omega) (by simp; omega) (wr.heap.size + 1) (by simp) ?_; intro g1 k1 w1 hown1 hgrow1 hat1 hlt1; have t1 := Turn.app hnr.rows (i := 1) rfl hown1 hgrow1 hat1; have s1 := t1.kept.size; clear hown1 hgrow1 hat1)
          | (at_builtin; refine wpList_append_lies _ rfl (.tmp 61) (.tmp 63) 35 rfl B 3 i0 (.int .i64 0) 1 8 Try.underlying35 hi hz0 hz1 hz2 rfl (by decide) _ (Pl.D (ks.take k)).length ((Pl.F (ks.take k)).map (Value.int .i64)) rfl (World.ownsRow.alloc (t1.rows.get (i := 2) rfl) _) ⟨w1.heap.size, 0, none⟩ 1 1 [.int .i64 (k : Int)] rfl rfl (cell_one_new _ _ _) (ints_oneCell .i64 [(k : Int)]) (by decide) (by unfold maxLen; omega) (by omega) (by simp; omega) (w1.heap.size + 1) (by simp) ?_; intro g2 k2 w2 hown2 hgrow2 hat2 hlt2; have t2 := Turn.app t1.rows (i := 2) rfl hown2 hgrow2 hat2; have s2 := t2.kept.size; clear hown2 hgrow2 hat2)
          | (at_builtin; refine wpList_append_lies _ rfl (.tmp 65) (.tmp 66) 35 rfl B 3 i0 (.int .i64 0) 1 8 Try.underlying35 hi hz0 hz1 hz2 rfl (by decide) _ (Pl.D (ks.take k)).length ((Pl.C (ks.take k)).map (Value.int .i64)) rfl (World.ownsRow.alloc (t2.rows.get (i := 3) rfl) _) ⟨w2.heap.size, 0, none⟩ 1 1 [.int .i64 0] rfl rfl (cell_one_new _ _ _) (ints_oneCell .i64 [0]) (by decide) (by unfold maxLen; omega) (by omega) (by simp; omega) (w2.heap.size + 1) (by simp) ?_; intro g3 k3 w3 hown3 hgrow3 hat3 hlt3; have t3 := Turn.app t2.rows (i := 3) rfl hown3 hgrow3 hat3; have s3 := t3.kept.size; have cs3 := (t3.rows.get (i := 0) rfl).cell hul; rw [Pl.S_at _ _ _ hul, if_neg hm] at cs3; have fs3 := (t3.rows.get (i := 0) rfl).fr un; have ck3 := (t3.rows.get (i := 4) rfl).cell hlk; rw [keys_at hlk, HU.out] at ck3; have fk3 := (t3.rows.get (i := 4) rfl).fr k; have cc3 := (t3.rows.get (i := 3) rfl).cell (Nat.lt_succ_self _); rw [last_zero] at cc3; have fc3 := (t3.rows.get (i := 3) rfl).fr (Pl.D (ks.take k)).length; have ne2 : gs ≠ g3 := t3.rows.ne (i := 0) (j := 3) rfl rfl (by decide); have ne3 : gk ≠ g3 := t3.rows.ne (i := 4) (j := 3) rfl rfl (by decide); have R := NR.fresh hnr hlk HU.out hm t1 rfl t2 rfl t3 rfl; have HR : Hid (NR _ _ _ _ _ _ _ _ _ _ _ _ _ _) := R; clear R hown3 hgrow3 hat3 t1 t2 t3))
        go_roundw
        case rel => exact ⟨k + 1, by omega, by go_num, HR.out⟩
        case measure => simp [intOf]; omega
    · obtain rfl : k = n := by omega
      obtain ⟨wo, rfl⟩ : ∃ wo : World, wo = wr := ⟨_, rfl⟩
      obtain ⟨av, cv, rfl⟩ := (hnr.rows.get (i := 1) rfl).slice
      go_wp2
      go_loopw [93] (fun i wr => ∃ j : Nat, j ≤ (Pl.D ks).length ∧ i = .int .i64 j ∧ Turn 3 B (five n0 (.slice a0 n0 c0) (.slice a1 0 c1) (.slice a2 0 c2) (.slice a3 0 c3) (.slice a4 ks.length c4) ks 0) (swept n0 (.slice a0 n0 c0) (.slice av (Pl.D (ks.take k)).length cv) u8 u9 (.slice a4 ks.length c4) ks j) W wr) (fun i _ => (Pl.D ks).length - (intOf i).toNat)
      case atStart =>
        refine ⟨0, Nat.zero_le _, rfl, ?_⟩
        have e1 : ks.take k = ks := by rw [HN.out]; simp
        have e2 : five n0 (.slice a0 n0 c0) (.slice av (Pl.D (ks.take k)).length cv) u8 u9 (.slice a4 ks.length c4) ks k = swept n0 (.slice a0 n0 c0) (.slice av (Pl.D (ks.take k)).length cv) u8 u9 (.slice a4 ks.length c4) ks 0 := by
          unfold five swept
          rw [Pl.Z_zero, e1]
          rw [show ks.drop k = [] from by rw [HN.out]; simp, List.append_nil]
        rw [← e2]
        exact hnr
      case round =>
        obtain ⟨j, hj, rfl, ht⟩ := hrel
        have e1 : ks.take k = ks := by rw [HN.out]; simp
        rw [e1] at ht ⊢
        by_cases hlt2 : j < (Pl.D ks).length
        · have hdm : (Pl.D ks).getD j 0 ∈ ks := by
            rw [← Pl.mem_D]; simp [List.getD, hlt2]
          obtain ⟨jj, hjj, hje⟩ := List.getElem_of_mem hdm
          have hkj := HKS.out jj hjj
          have hje2 : ks.getD jj 0 = (Pl.D ks).getD j 0 := by simpa [List.getD, hjj] using hje
          rw [hje2] at hkj
          obtain ⟨un, hun⟩ := Int.eq_ofNat_of_zero_le hkj.1
          have hul : un < n0 := by omega
          obtain ⟨gs, cs', hv0, _⟩ := (ht.rows.get (i := 0) rfl).pos (by omega)
          simp only [Value.slice.injEq] at hv0
          obtain ⟨rfl, _, rfl⟩ := hv0
          obtain ⟨gv, cv', hv1, _⟩ := (ht.rows.get (i := 1) rfl).pos (by omega)
          simp only [Value.slice.injEq] at hv1
          obtain ⟨rfl, _, rfl⟩ := hv1
          have c1 := (ht.rows.get (i := 1) rfl).cell hlt2
          rw [hun] at c1
          have cs := (ht.rows.get (i := 0) rfl).cell hul
          have fs := (ht.rows.get (i := 0) rfl).fr un
          have T := ht.trans (Turn.store ht.rows (i := 0) rfl un 0)
          rw [show (swept n0 (.slice (some ⟨gs, 0, none⟩) n0 c0) (.slice (some ⟨gv, 0, none⟩) (Pl.D ks).length cv) u8 u9 (.slice a4 ks.length c4) ks j).set 0 (.slice (some ⟨gs, 0, none⟩) n0 c0, n0, (Pl.Z n0 ks j).set un 0) = swept n0 (.slice (some ⟨gs, 0, none⟩) n0 c0) (.slice (some ⟨gv, 0, none⟩) (Pl.D ks).length cv) u8 u9 (.slice a4 ks.length c4) ks (j + 1) from by
            unfold swept; rw [← Pl.Z_step n0 ks j hlt2 un hun]; rfl] at T
          have HT : Hid (Turn _ _ _ _ _ _) := T
          have hDl : (Pl.D ks).length ≤ ks.length := Pl.length_D ks
          rw [← HN.out] at hDl
          clear T ht hnr H1 hdm hje hje2 hkj hun
          go_wp2
          go_roundw
          case rel => exact ⟨j + 1, by omega, by go_num, HT.out⟩
          case measure => simp [intOf]; omega
        · obtain rfl : j = (Pl.D ks).length := by omega
          obtain ⟨a8, c8, rfl⟩ := (ht.rows.get (i := 2) rfl).slice
          obtain ⟨a9, c9, rfl⟩ := (ht.rows.get (i := 3) rfl).slice
          have hoff := H1.off HSB.out
          have hlts : sb < W.heap.size := (Array.getElem?_eq_some_iff.1 HSB.out).1
          have hb : wr.heap[sb]? = some (.cells #[.slice a0 n0 c0, .slice a1 n1 c1, .slice a2 n2 c2, .slice a3 n3 c3] 72 (0, 0)) := (ht.kept.block sb hlts hoff).trans HSB.out
          have p1 : wr.cell? ⟨sb, 1, none⟩ = some (.slice a1 n1 c1) := cell_of_row wr sb 1 _ 72 (0, 0) hb
          have p2 : wr.cell? ⟨sb, 2, none⟩ = some (.slice a2 n2 c2) := cell_of_row wr sb 2 _ 72 (0, 0) hb
          have p3 : wr.cell? ⟨sb, 3, none⟩ = some (.slice a3 n3 c3) := cell_of_row wr sb 3 _ 72 (0, 0) hb
          have f1 : wr.frozen? ⟨sb, 1, none⟩ = false := frozen_of_row wr sb 1 _ 72 hb
          have f2 : wr.frozen? ⟨sb, 2, none⟩ = false := frozen_of_row wr sb 2 _ 72 hb
          have f3 : wr.frozen? ⟨sb, 3, none⟩ = false := frozen_of_row wr sb 3 _ 72 hb
          go_wp2
          go_end0
          rw [swept_end] at ht
          exact ⟨rfl, num_post HW.out HLOC.out ht hb⟩

end Go.Proofs.Qxb6601940a
