import Derived.Test.Qxb6601940aMvP
import Derived.Test.Qxb6601940aMvF
import Derived.BigQuiet
import Derived.Deep.RegionHeld3
namespace Go.Proofs.Qxb6601940a
open Go.RowKit
set_option linter.unusedVariables false

/-- The model's state: the row of the moves so far. -/
structure Sm (w : World) (wr : World) (g L cap : Nat) (ms : List Mv) : Prop where
  len : ms.length = L
  kept : Kept [] w wr
  row : wr.ownsRow w.heap.size 60 5 (.slice (some ⟨g, 0, none⟩) L cap) L (ms.flatMap cellsM)
  lt : g < wr.heap.size
theorem Sm.on {w wr wr' : World} {g L cap : Nat} {ms : List Mv} (h : Sm w wr g L cap ms) (hk : Kept [] wr wr') : Sm w wr' g L cap ms :=
  ⟨h.len, h.kept.next hk, ownsKept h.row hk (by simp), Nat.lt_of_lt_of_le h.lt hk.size⟩
theorem Sm.start (w : World) : Sm w (w.alloc (.cells #[] 60)) w.heap.size 0 0 [] :=
  ⟨rfl, Kept.alloc _ _, ⟨by simp, .inr ⟨w.heap.size, 0, #[], rfl, by omega, heap_alloc_new _ _, Nat.le_refl _, by unfold maxLen; omega, by simp, by simp⟩⟩, by simp⟩
/-- .. in the inner loop, the part's own cells beside it. -/
structure Sm4 (w : World) (g1 : Nat) (svc : ByteArray) (num : Int) (sl : Value) (wq : World) (g L cap : Nat) (ms : List Mv) : Prop where
  st : Sm w wq g L cap ms
  c0 : wq.cell? ⟨g1, 0, none⟩ = some (.string svc)
  c1 : wq.cell? ⟨g1, 1, none⟩ = some (.int .i64 num)
  c3 : wq.cell? ⟨g1, 3, none⟩ = some sl
  ne1 : g ≠ g1
theorem Sm4.next {w wq wq' : World} {g1 g L cap : Nat} {svc : ByteArray} {num : Int} {sl : Value} {ms : List Mv} (h : Sm4 w g1 svc num sl wq g L cap ms) (hk : Kept [] wq wq') : Sm4 w g1 svc num sl wq' g L cap ms :=
  ⟨h.st.on hk, cell_kept h.c0 hk, cell_kept h.c1 hk, cell_kept h.c3 hk, h.ne1⟩
theorem Sm4.app {w wq w' : World} {g1 g g' L cap cap' : Nat} {svc : ByteArray} {num : Int} {sl : Value} {ms : List Mv} (h : Sm4 w g1 svc num sl wq g L cap ms) (mv : Mv)
    (hown : w'.ownsRow w.heap.size 60 5 (.slice (some ⟨g', 0, none⟩) (L + 1) cap') (L + 1) (ms.flatMap cellsM ++ cellsM mv)) (hgrow : wq.grownBy w' (Value.slice (some ⟨g, 0, none⟩) L cap).ownBlock) (hat : (Value.slice (some ⟨g, 0, none⟩) L cap).ownBlock = some g' ∨ g' = wq.heap.size) (hlt : g' < w'.heap.size) :
    Sm4 w g1 svc num sl w' g' (L + 1) cap' (ms ++ [mv]) := by
  have hK : Kept [some g] wq w' := Kept.ofGrown hgrow
  have l0 := World.block_lt_of_cell? _ _ h.c0
  have hb : w.heap.size ≤ g := (h.st.row.lt g rfl).1
  have hg : g' = g ∨ g' = wq.heap.size := by
    rcases hat with hat | hat
    · left; simpa [Value.ownBlock] using hat.symm
    · exact .inr hat
  refine ⟨⟨by simp [h.st.len], h.st.kept.trans hK (fun j hj hj2 => by simp at hj; omega), by simpa using hown, hlt⟩, ?_, ?_, ?_, ?_⟩
  · rw [hK.cell l0 (by simpa using h.ne1.symm)]; exact h.c0
  · rw [hK.cell (World.block_lt_of_cell? _ _ h.c1) (by simpa using h.ne1.symm)]; exact h.c1
  · rw [hK.cell (World.block_lt_of_cell? _ _ h.c3) (by simpa using h.ne1.symm)]; exact h.c3
  · rcases hg with rfl | rfl
    · exact h.ne1
    · simp at l0; omega

/-- What the search of a partition says. -/
theorem mvP_none {ps : List Pt} {s : ByteArray} {m : Int} (rs : List Rp) (h : lastOf (fun p : Pt => p.svc = s ∧ p.num = m) ps = none) : mvP (ps.map core) ⟨s, m, rs⟩ = [] := by
  unfold mvP
  rw [lastOf_map, show (fun x : Pt => (core x).svc = (⟨s, m, rs⟩ : Cr).svc ∧ (core x).num = (⟨s, m, rs⟩ : Cr).num) = (fun p : Pt => p.svc = s ∧ p.num = m) from rfl, h]
  rfl
theorem mvP_some {ps : List Pt} {s : ByteArray} {m : Int} (rs : List Rp) {p : Pt} (h : lastOf (fun p : Pt => p.svc = s ∧ p.num = m) ps = some p) : mvP (ps.map core) ⟨s, m, rs⟩ = rs.flatMap (mvR ⟨s, m, rs⟩ p.reps) := by
  unfold mvP
  rw [lastOf_map, show (fun x : Pt => (core x).svc = (⟨s, m, rs⟩ : Cr).svc ∧ (core x).num = (⟨s, m, rs⟩ : Cr).num) = (fun p : Pt => p.svc = s ∧ p.num = m) from rfl, h]
  rfl

/-- What the search of a replica says. -/
theorem mvR_none {was : List Rp} {m : Int} (p : Cr) (r : Rp) (hm : r.num = m) (h : lastOf (fun x : Rp => x.num = m) was = none) : mvR p was r = [] := by
  unfold mvR; rw [hm, h]
theorem mvR_same {was : List Rp} {m : Int} (p : Cr) (r : Rp) (hm : r.num = m) {x : Rp} (h : lastOf (fun x : Rp => x.num = m) was = some x) (hx : x.node = r.node) : mvR p was r = [] := by
  unfold mvR; rw [hm, h]; simp [hx]
theorem mvR_move {was : List Rp} {m : Int} (p : Cr) (r : Rp) (hm : r.num = m) {x : Rp} (h : lastOf (fun x : Rp => x.num = m) was = some x) (hx : ¬ x.node = r.node) : mvR p was r = [⟨p.svc, p.num, r.num, x.node, r.node⟩] := by
  unfold mvR; rw [hm, h]; simp [hx]

set_option maxHeartbeats 4000000 in
set_option maxRecDepth 100000 in
theorem model18_any (a0 : Option Addr) (n0 c0 : Nat) (ps0 : List Pt) (a1 : Option Addr) (n1 c1 : Nat) (ps1 : List Pt) (w : World)
    (hl0 : ps0.length = n0) (hl1 : ps1.length = n1) (hr0 : RdP w a0 ps0) (hr1 : RdP w a1 ps1) (hf0 : Few ps0) (hf1 : Few ps1) :
    Calls Try.prog 18 #[.slice a0 n0 c0, .slice a1 n1 c1] w (MvOut (moves (ps0.map core) (ps1.map core)) w) := by
  have HL0 : Hid (ps0.length = n0) := hl0
  have HL1 : Hid (ps1.length = n1) := hl1
  have HF0 : Hid (Few ps0) := hf0
  have HF1 : Hid (Few ps1) := hf1
  have hn0 : n0 ≤ 4096 := by have := hf0.1; omega
  have hn1 : n1 ≤ 4096 := by have := hf1.1; omega
  clear hl0 hl1 hf0 hf1
  have hS0 : Sm w (w.alloc (.cells #[] 60)) w.heap.size 0 0 (mvTo ps0 ps1 0) := by simpa [mvTo, moves] using Sm.start w
  obtain ⟨i0, hi, hz0, hz1, hz2⟩ := info_parts info60
  go_enter Try.func18, Try.ntmps18
  go_wp2
  go_loopw [5, 6] (fun v i wr => ∃ j g L cap : Nat, j ≤ n1 ∧ i = .int .i64 j ∧ v = .slice (some ⟨g, 0, none⟩) L cap ∧ Sm w wr g L cap (mvTo ps0 ps1 j)) (fun _ i _ => n1 - (intOf i).toNat)
  case atStart => exact ⟨0, _, 0, 0, Nat.zero_le _, rfl, rfl, hS0⟩
  case round =>
    clear hS0
    obtain ⟨j, g, L, cap, hj, ei, ev, hS⟩ := hrel
    subst ei ev
    by_cases hlt1 : j < n1
    · obtain ⟨p, hp⟩ := getElem?_lt HL1.out hlt1
      obtain ⟨b, off, ea, d0, d1, d2, d3, r, hc⟩ := (hr1.kept hS.kept).at hp
      subst ea
      have hfw := HF1.out.2 p (List.mem_of_getElem? hp)
      have HP : Hid (ps1[j]? = some p) := hp
      have HX : Hid (mvTo ps0 ps1 (j + 1) = mvTo ps0 ps1 j ++ mvP (ps0.map core) (core p)) := moves_snoc (ps0.map core) hp
      have HM1 : Hid ((mvTo ps0 ps1 j).length ≤ 4096 * 4096) := moves_take_le (ps0.map core) HF1.out j
      obtain ⟨svc, num, rule, ra, rc, reps⟩ := p
      simp only at d0 d1 d2 d3 r hc hfw
      have hS1 := hS.on (Kept.alloc wr (.cells #[.string svc, .int .i64 num, .string rule, .slice ra reps.length rc] 51))
      have LC := cells4 wr (.string svc) (.int .i64 num) (.string rule) (.slice ra reps.length rc) 51
      have hgl := hS.lt
      have HS1 : Hid (Sm w _ g L cap _) := hS1
      clear hp r hc hS hS1
      go_wp2_with fail
      refine (last37_any a0 n0 c0 ps0 svc num _ HL0.out hn0 (hr0.kept HS1.out.kept)).mono ?_
      rintro e w1 (⟨rfl, rfl, hlast⟩ | ⟨i, p0, rfl, rfl, hx, hlast⟩)
      · have HV : Hid (mvP (ps0.map core) ⟨svc, num, reps⟩ = []) := mvP_none reps hlast
        clear hlast
        go_wp2
        go_roundw
        case rel =>
          refine ⟨j + 1, g, L, cap, by omega, by go_num, rfl, ?_⟩
          rw [HX.out, show mvP (ps0.map core) (core ⟨svc, num, rule, ra, rc, reps⟩) = [] from HV.out, List.append_nil]
          exact HS1.out
        case measure => simp [intOf]; omega
      · have HV : Hid (mvP (ps0.map core) ⟨svc, num, reps⟩ = reps.flatMap (mvR ⟨svc, num, reps⟩ p0.reps)) := mvP_some reps hlast
        have hi0 : i < n0 := by have := (List.getElem?_eq_some_iff.1 hx).1; rw [HL0.out] at this; exact this
        obtain ⟨b0, off0, ea, e0, e1, e2, e3, r0, hc0⟩ := (hr0.kept HS1.out.kept).at hx
        have hf0 := HF0.out.2 p0 (List.mem_of_getElem? hx)
        have HX0 : Hid (ps0[i]? = some p0) := hx
        subst ea
        obtain ⟨psvc, pnum, prule, wra, wrc, was⟩ := p0
        simp only at e3 r0 hf0 HV
        clear hlast hx e0 e1 e2 r0 hc0 d0 d1 d2 d3
        go_wp2
        have hg1 : g ≠ wr.heap.size := by omega
        have HST : Sm4 w wr.heap.size svc num (.slice ra reps.length rc) _ g L cap (mvTo ps0 ps1 j ++ (reps.take 0).flatMap (mvR ⟨svc, num, reps⟩ was)) :=
          ⟨by simpa using HS1.out, LC.1, LC.2.1, LC.2.2.2, hg1⟩
        clear HS1 LC e3 hgl hg1
        generalize wr.alloc (.cells #[.string svc, .int .i64 num, .string rule, .slice ra reps.length rc] 51) = wa at *
        generalize wr.heap.size = g1 at *
        go_loopw [5, 10] (fun v i wq => ∃ q g L cap : Nat, q ≤ reps.length ∧ i = .int .i64 q ∧ v = .slice (some ⟨g, 0, none⟩) L cap ∧ Sm4 w g1 svc num (.slice ra reps.length rc) wq g L cap (mvTo ps0 ps1 j ++ (reps.take q).flatMap (mvR ⟨svc, num, reps⟩ was))) (fun _ i _ => reps.length - (intOf i).toNat)
        case atStart => exact ⟨0, _, _, _, Nat.zero_le _, rfl, rfl, HST⟩
        case round =>
          clear HST
          obtain ⟨q, g, L, cap, hq, ei, ev, hS4⟩ := hrel
          subst ei ev
          have l3 := hS4.c3
          by_cases hlt3 : q < reps.length
          · obtain ⟨r1, hr1'⟩ := getElem?_lt rfl hlt3
            obtain ⟨_, _, eb, _, _, _, _, r, _⟩ := (hr1.kept hS4.st.kept).at HP.out
            clear eb
            obtain ⟨b1, off1, e1, d0, d1, d2, d3⟩ := r.at hr1'
            simp only at e1
            subst e1
            have HT : Hid ((reps.take (q + 1)).flatMap (mvR ⟨svc, num, reps⟩ was) = (reps.take q).flatMap (mvR ⟨svc, num, reps⟩ was) ++ mvR ⟨svc, num, reps⟩ was r1) := by
              show _ = _
              rw [take_snoc_of hr1']; simp
            have hS5 := hS4.next (Kept.alloc wr (.cells #[.int .i64 r1.num, .string r1.node, .string r1.fd, .string r1.ud] 53))
            obtain ⟨m0, m1, _, _⟩ := cells4 wr (.int .i64 r1.num) (.string r1.node) (.string r1.fd) (.string r1.ud) 53
            have l0 := hS5.c0
            have l1 := hS5.c1
            obtain ⟨_, _, eb, _, _, _, _, rw0, _⟩ := (hr0.kept hS5.st.kept).at HX0.out
            clear eb
            simp only at rw0
            have hLb : L ≤ 4096 * 4096 + 4096 := by
              have h1 := hS4.st.len
              have h2 := HM1.out
              have h3 := reps_take_le ⟨svc, num, reps⟩ was reps hfw q
              rw [List.length_append] at h1
              exact h1 ▸ Nat.add_le_add h2 h3
            have HS5 : Hid (Sm4 _ _ _ _ _ _ _ _ _ _) := hS5
            have HRW : Hid (RdR _ wra was) := rw0
            have hgl2 := hS4.st.lt
            clear hr1' r hS4 hS5 rw0
            go_wp2_with fail
            refine (last38_any wra was.length wrc was r1.num _ rfl hf0 HRW.out).mono ?_
            rintro e w1 (⟨rfl, rfl, hlast⟩ | ⟨i2, x, rfl, rfl, hx, hlast⟩)
            · have HV2 : Hid (mvR ⟨svc, num, reps⟩ was r1 = []) := mvR_none _ _ rfl hlast
              clear hlast
              go_wp2
              go_quiet (fail)
              go_wp2
              go_roundw
              case rel =>
                refine ⟨q + 1, g, L, cap, by omega, by go_num, rfl, ?_⟩
                rw [HT.out, HV2.out, List.append_nil]
                exact HS5.out.next (Kept.drewN _ _)
              case measure => simp [intOf]; omega
            · obtain ⟨b2, off2, e2, _, x1, _, _⟩ := HRW.out.at hx
              have hi2 : i2 < was.length := (List.getElem?_eq_some_iff.1 hx).1
              have hi20 : (0 : Int) ≤ (i2 : Int) := Int.natCast_nonneg _
              have hi21 : (i2 : Int) < (was.length : Int) := by omega
              have hb2 : b2 < w.heap.size := by
                obtain ⟨_, _, _, _, _, _, _, rw1, _⟩ := hr0.at HX0.out
                obtain ⟨b3, off3, e3, _, x3, _, _⟩ := RdR.at rw1 hx
                have := e2.symm.trans e3
                cases this
                exact World.block_lt_of_cell? _ _ x3
              subst e2
              by_cases hxe : x.node = r1.node
              · have HV2 : Hid (mvR ⟨svc, num, reps⟩ was r1 = []) := mvR_same _ _ rfl hlast hxe
                have hxb : (x.node.toList == r1.node.toList) = true := (Lib.bytes_beq_iff _ _).2 hxe
                clear hlast hx hxe
                go_wp2
                go_quiet (fail)
                go_wp2
                go_roundw
                case rel =>
                  refine ⟨q + 1, g, L, cap, by omega, by go_num, rfl, ?_⟩
                  rw [HT.out, HV2.out, List.append_nil]
                  exact HS5.out.next (Kept.drewN _ _)
                case measure => simp [intOf]; omega
              · have HV2 : Hid (mvR ⟨svc, num, reps⟩ was r1 = [⟨svc, num, r1.num, x.node, r1.node⟩]) := mvR_move _ _ rfl hlast hxe
                have hxb : (x.node.toList == r1.node.toList) = false := (Lib.bytes_beq_false_iff _ _).2 hxe
                clear hlast hx hxe
                go_wp2
                go_quiet (fail)
                go_wp2
                have HS6 := HS5.out.next (Kept.drewN _ nq)
                have hg2 : g < wr.heap.size := hgl2
                have x2 := cell_kept x1 (Kept.drewN _ nq)
                have l4 := HS6.c0
                have l5 := HS6.c1
                have m2 := cell_kept m0 (Kept.drewN _ nq)
                have m3 := cell_kept m1 (Kept.drewN _ nq)
                clear x1 m0 m1 l0 l1 HS5 HRW l3 d0 d1 d2 d3
                generalize (wr.alloc (.cells #[.int .i64 r1.num, .string r1.node, .string r1.fd, .string r1.ud] 53)).drewN nq = wd at *
                generalize wr.heap.size = g2 at *
                have HS7 := HS6.next (Kept.alloc wd (.cells #[.string svc, .int .i64 num, .int .i64 r1.num, .string x.node, .string r1.node] 60)).drew
                have HSR : Hid (World.ownsRow _ _ _ _ _ _ _) := HS7.st.row
                have HNW : Hid (∀ j u, (cellsM ⟨svc, num, r1.num, x.node, r1.node⟩)[j]? = some u → ((wd.alloc (.cells #[.string svc, .int .i64 num, .int .i64 r1.num, .string x.node, .string r1.node] 60)).drew).cell? ((⟨wd.heap.size, 0, none⟩ : Addr).add j) = some u) := cells5_new wd ⟨svc, num, r1.num, x.node, r1.node⟩ 60
                have HSB : Hid (w.heap.size ≤ ((wd.alloc (.cells #[.string svc, .int .i64 num, .int .i64 r1.num, .string x.node, .string r1.node] 60)).drew).heap.size) := HS7.st.kept.size
                have HB1 : Hid (L + 1 ≤ maxLen ∧ (L + 1) * 64 ≤ 140737488355328) := by
                  constructor
                  · unfold maxLen; omega
                  · omega
                have H7 : Hid (Sm4 _ _ _ _ _ _ _ _ _ _) := HS7
                have hl1 : g1 < wd.heap.size := World.block_lt_of_cell? _ _ l4
                have hl2 : g2 < wd.heap.size := World.block_lt_of_cell? _ _ m2
                have hl3 : b2 < wd.heap.size := World.block_lt_of_cell? _ _ x2
                have hne1 := HS6.ne1
                have hge := (HS6.st.row.lt g rfl).1
                have HKP : Hid (∀ w', World.grownBy ((wd.alloc (.cells #[.string svc, .int .i64 num, .int .i64 r1.num, .string x.node, .string r1.node] 60)).drew) w' (Value.slice (some ⟨g, 0, none⟩) L cap).ownBlock → w'.cell? ⟨g1, 0, none⟩ = some (.string svc) ∧ w'.cell? ⟨g1, 1, none⟩ = some (.int .i64 num) ∧ w'.cell? ⟨g2, 0, none⟩ = some (.int .i64 r1.num) ∧ w'.cell? ⟨g2, 1, none⟩ = some (.string r1.node) ∧ w'.cell? ⟨b2, off2 + i2 * 4 + 1, none⟩ = some (.string x.node)) := by
                  intro w' hgr
                  have hK : Kept [some g] _ w' := Kept.ofGrown hgr
                  have hA := (Kept.alloc wd (.cells #[.string svc, .int .i64 num, .int .i64 r1.num, .string x.node, .string r1.node] 60)).drew
                  have key : ∀ (a : Addr) (v : Value), wd.cell? a = some v → a.block ≠ g → w'.cell? a = some v := fun a v ha hn => by
                    have h1 := cell_kept ha hA
                    rw [hK.cell (World.block_lt_of_cell? _ _ h1) (by simpa using hn)]
                    exact h1
                  exact ⟨key _ _ l4 (by simp; omega), key _ _ l5 (by simp; omega), key _ _ m2 (by simp; omega), key _ _ m3 (by simp; omega), key _ _ x2 (by simp; omega)⟩
                clear HS6 HS7
                go_region_held3 (fun w' => w'.cell? ⟨g1, 0, none⟩ = some (.string svc) ∧ w'.cell? ⟨g1, 1, none⟩ = some (.int .i64 num) ∧ w'.cell? ⟨g2, 0, none⟩ = some (.int .i64 r1.num) ∧ w'.cell? ⟨g2, 1, none⟩ = some (.string r1.node) ∧ w'.cell? ⟨b2, off2 + i2 * 4 + 1, none⟩ = some (.string x.node))
                  (first
                    | go_keep
                    | exact HKP.out _ hgrow)
                  ((refine step_append_lies _ (by rfl) (.tmp 65) (.tmp 80) 28 (by rfl) w.heap.size 60 i0 _ 5 64 Try.underlying28 hi hz0 hz1 hz2 rfl (by decide) (.slice (some ⟨g, 0, none⟩) L cap) L _ (by rfl) HSR.out ⟨wd.heap.size, 0, none⟩ 1 1 (cellsM ⟨svc, num, r1.num, x.node, r1.node⟩) (by rfl) rfl HNW.out (cellsM_one _) (by decide) HB1.out.1 HB1.out.2 HSB.out (wd.heap.size + 1) (by simp) ?_; intro g' cap' w' hown hgrow hat hlt4))
                go_wp2
                go_roundw
                case rel =>
                  refine ⟨q + 1, g', L + 1, cap', by omega, by go_num, rfl, ?_⟩
                  rw [HT.out, HV2.out, ← List.append_assoc]
                  exact H7.out.app _ hown hgrow (by rcases hat with h | h; exact .inl h; exact .inr (by simpa using h)) hlt4
                case measure => simp [intOf]; omega
          · obtain rfl : q = reps.length := by omega
            go_wp2
            go_roundw
            case rel =>
              refine ⟨j + 1, g, L, cap, by omega, by go_num, rfl, ?_⟩
              have := hS4.st
              rw [List.take_length, ← HV.out] at this
              rw [HX.out]
              exact this
            case measure => simp [intOf]; omega
    · obtain rfl : j = n1 := by omega
      go_wp2
      go_ret
      have hS2 : Sm w wr g L cap (moves (ps0.map core) (ps1.map core)) := by
        have := hS
        unfold mvTo at this
        rwa [← HL1.out, List.take_length] at this
      obtain rfl := hS2.len
      exact ⟨g, cap, rfl, hS2.row, hS2.kept⟩

end Go.Proofs.Qxb6601940a
