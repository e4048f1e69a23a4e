import Derived.Test.Qxb6601940aMvD
import Derived.Test.Qxb6601940aMvE
import Derived.Lib.SlicesS
namespace Go.Proofs.Qxb6601940a
open Go.RowKit
set_option linter.unusedVariables false

def MvOut (ms : List Mv) (w : World) (e : Ending) (w' : World) : Prop :=
  ∃ g cap, e = .returned (.slice (some ⟨g, 0, none⟩) ms.length cap) ∧ w'.ownsRow w.heap.size 60 5 (.slice (some ⟨g, 0, none⟩) ms.length cap) ms.length (ms.flatMap cellsM) ∧ Kept [] w w'

/-- The walk's state in the second loop: the map of the listed, and the row of the moves so far. -/
structure St (w : World) (n0 : Nat) (ps0 : List Pt) (wr : World) (g L cap : Nat) (ms : List Mv) : Prop where
  len : ms.length = L
  map : MapV wr 76 w.heap.size n0 (f0 ps0 n0)
  kept : Kept [] w wr
  row : wr.ownsRow w.heap.size 60 5 (.slice (some ⟨g, 0, none⟩) L cap) L (ms.flatMap cellsM)
  ne : g ≠ w.heap.size
  lt : g < wr.heap.size
theorem St.on {w wr wr' : World} {n0 g L cap : Nat} {ps0 : List Pt} {ms : List Mv} (h : St w n0 ps0 wr g L cap ms) (hk : Kept [] wr wr') : St w n0 ps0 wr' g L cap ms :=
  ⟨h.len, h.map.kept hk (by simp), h.kept.next hk, ownsKept h.row hk (by simp), h.ne, Nat.lt_of_lt_of_le h.lt hk.size⟩
theorem St.start {w wr : World} {n0 : Nat} {ps0 : List Pt} (hm : MapV wr 76 w.heap.size n0 (f0 ps0 n0)) (hk : Kept [] w wr) (hlt : w.heap.size < wr.heap.size) : St w n0 ps0 (wr.alloc (.cells #[] 60)) wr.heap.size 0 0 [] :=
  ⟨rfl, hm.kept (Kept.alloc _ _) (by simp), hk.next (Kept.alloc _ _), ⟨by simp, .inr ⟨wr.heap.size, 0, #[], rfl, by omega, heap_alloc_new _ _, Nat.le_refl _, by unfold maxLen; omega, by simp, by simp⟩⟩, by omega, by simp⟩
theorem moves_snoc (cur : List Cr) {ps : List Pt} {k : Nat} {p : Pt} (h : ps[k]? = some p) : moves cur ((ps.take (k + 1)).map core) = moves cur ((ps.take k).map core) ++ mvP cur (core p) := by
  rw [take_snoc_of h]; simp [moves]
/-- The moves of the first k parts. -/
noncomputable def mvTo (ps0 ps1 : List Pt) (k : Nat) : List Mv := moves (ps0.map core) ((ps1.take k).map core)
theorem moves_take_le (cur : List Cr) {ps : List Pt} (hf : Few ps) (k : Nat) : (moves cur ((ps.take k).map core)).length ≤ 4096 * 4096 := by
  have h1 := moves_le cur ((ps.take k).map core) (fun p hp => by
    obtain ⟨q, hq, rfl⟩ := List.mem_map.1 hp
    exact hf.2 q (List.mem_of_mem_take hq))
  have h2 : ((ps.take k).map core).length ≤ 4096 := by
    have := hf.1
    simp; omega
  exact Nat.le_trans h1 (Nat.mul_le_mul_right 4096 h2)
theorem reps_take_le (p : Cr) (was rs : List Rp) (hr : rs.length ≤ 4096) (q : Nat) : ((rs.take q).flatMap (mvR p was)).length ≤ 4096 := by
  have := flatMap_le (mvR p was) 1 (rs.take q) (fun r _ => mvR_le p was r)
  rw [List.length_take] at this
  omega

/-- The walk's state in the innermost loop. -/
structure St4 (w : World) (n0 : Nat) (ps0 : List Pt) (g1 m : Nat) (was : List Rp) (svc : ByteArray) (num : Int) (wq : World) (g L cap : Nat) (ms : List Mv) : Prop where
  st : St w n0 ps0 wq g L cap ms
  on : MapV wq 3 (g1 + 1) m (f2 was m)
  c0 : wq.cell? ⟨g1, 0, none⟩ = some (.string svc)
  c1 : wq.cell? ⟨g1, 1, none⟩ = some (.int .i64 num)
  ne1 : g ≠ g1
  ne2 : g ≠ g1 + 1
  base : w.heap.size < g1
theorem St4.next {w wq wq' : World} {n0 g1 m g L cap : Nat} {ps0 : List Pt} {was : List Rp} {svc : ByteArray} {num : Int} {ms : List Mv} (h : St4 w n0 ps0 g1 m was svc num wq g L cap ms) (hk : Kept [] wq wq') : St4 w n0 ps0 g1 m was svc num wq' g L cap ms :=
  ⟨h.st.on hk, h.on.kept hk (by simp), cell_kept h.c0 hk, cell_kept h.c1 hk, h.ne1, h.ne2, h.base⟩
theorem St4.app {w wq w' : World} {n0 g1 m g g' L cap cap' : Nat} {ps0 : List Pt} {was : List Rp} {svc : ByteArray} {num : Int} {ms : List Mv} (h : St4 w n0 ps0 g1 m was svc num wq g L cap ms) (mv : Mv)
    (hown : w'.ownsRow w.heap.size 60 5 (.slice (some ⟨g', 0, none⟩) (L + 1) cap') (L + 1) (ms.flatMap cellsM ++ cellsM mv)) (hgrow : wq.grownBy w' (Value.slice (some ⟨g, 0, none⟩) L cap).ownBlock) (hat : (Value.slice (some ⟨g, 0, none⟩) L cap).ownBlock = some g' ∨ g' = wq.heap.size) (hlt : g' < w'.heap.size) :
    St4 w n0 ps0 g1 m was svc num w' g' (L + 1) cap' (ms ++ [mv]) := by
  have hK : Kept [some g] wq w' := Kept.ofGrown hgrow
  have l0 := World.block_lt_of_cell? _ _ h.c0
  have l2 := h.on.lt
  have l3 := h.st.map.lt
  have hb : w.heap.size ≤ g := (h.st.row.lt g rfl).1
  have hg : g' = g ∨ g' = wq.heap.size := by
    rcases hat with hat | hat
    · left; simpa [Value.ownBlock] using hat.symm
    · exact .inr hat
  refine ⟨⟨by simp [h.st.len], h.st.map.kept hK (by simpa using h.st.ne.symm), h.st.kept.trans hK (fun j hj hj2 => by simp at hj; omega), by simpa using hown, ?_, hlt⟩, h.on.kept hK (by simpa using h.ne2.symm), ?_, ?_, ?_, ?_, h.base⟩
  · rcases hg with rfl | rfl
    · exact h.st.ne
    · omega
  · rw [hK.cell l0 (by simpa using h.ne1.symm)]; exact h.c0
  · rw [hK.cell (World.block_lt_of_cell? _ _ h.c1) (by simpa using h.ne1.symm)]; exact h.c1
  · rcases hg with rfl | rfl
    · exact h.ne1
    · simp at l0; omega
  · rcases hg with rfl | rfl
    · exact h.ne2
    · omega
theorem cells5_new (w : World) (mv : Mv) (t : TypeId) : ∀ j u, (cellsM mv)[j]? = some u → (w.alloc (.cells #[.string mv.svc, .int .i64 mv.num, .int .i64 mv.rep, .string mv.fr, .string mv.to] t)).cell? ((⟨w.heap.size, 0, none⟩ : Addr).add j) = some u := by
  intro j u hu
  rw [WideShapes.add_plain, Nat.zero_add]
  exact (cell_of_row _ _ j _ t (0, 0) (heap_alloc_new w _)).trans (by simpa [cellsM] using hu)
theorem cellsM_one (mv : Mv) : ∀ u ∈ cellsM mv, u.oneCell' = true := by
  intro u hu
  simp only [cellsM, List.mem_cons, List.not_mem_nil, or_false] at hu
  rcases hu with rfl | rfl | rfl | rfl | rfl <;> rfl

theorem run_makeMap_hint {t key elem : TypeId} (hu : Try.prog.underlying t = some (.map key elem)) (n : Int) (w : World) : (Instr.makeMap t (some (.int .i64 n))).run Try.prog w = .ok (.map (some w.heap.size)) (w.alloc (.map #[] 0)) := by
  simp [Instr.makeMap, run_underlying hu, asInt, asIntOf, Result.andThen]

set_option maxHeartbeats 4000000 in
set_option maxRecDepth 100000 in
theorem moves_any (a0 : Option Addr) (n0 c0 : Nat) (ps0 : List Pt) (a1 : Option Addr) (n1 c1 : Nat) (ps1 : List Pt) (w : World)
    (hl0 : ps0.length = n0) (hl1 : ps1.length = n1) (hr0 : RdP w a0 ps0) (hr1 : RdP w a1 ps1) (hf0 : Few ps0) (hf1 : Few ps1) (hw0 : WfP ps0) (hw1 : WfP ps1) :
    Calls Try.prog 36 #[.slice a0 n0 c0, .slice a1 n1 c1] w (MvOut (moves (ps0.map core) (ps1.map core)) w) := by
  have hmm := run_makeMap_hint Try.underlying74
  have hmn := run_makeMap_hint Try.underlying77
  have HL0 : Hid (ps0.length = n0) := hl0
  have HL1 : Hid (ps1.length = n1) := hl1
  have HF0 : Hid (Few ps0) := hf0
  have HF1 : Hid (Few ps1) := hf1
  have HW0 : Hid (WfP ps0) := hw0
  have HW1 : Hid (WfP ps1) := hw1
  have hn0 : n0 ≤ 4096 := by have := hf0.1; omega
  have hn1 : n1 ≤ 4096 := by have := hf1.1; omega
  clear hl0 hl1 hf0 hf1 hw0 hw1
  go_enter Try.func36, Try.ntmps36
  go_wp2
  have hM := mapV_made w 76
  go_loopw [24] (fun i wr => ∃ k : Nat, k ≤ n0 ∧ i = .int .i64 k ∧ MapV wr 76 w.heap.size k (f0 ps0 k) ∧ Kept [] w wr) (fun i _ => n0 - (intOf i).toNat)
  case atStart => exact ⟨0, Nat.zero_le _, rfl, hM.congr (f0_zero ps0), Kept.alloc _ _⟩
  case round =>
    clear hM
    obtain ⟨k, hk, rfl, hmap, hkept⟩ := hrel
    by_cases hlt : k < n0
    · obtain ⟨p, hp⟩ := getElem?_lt HL0.out hlt
      obtain ⟨b, off, rfl, d0, d1, d2, d3, r, hc⟩ := (hr0.kept hkept).at hp
      have hwf := HW0.out p (List.mem_of_getElem? hp)
      have HK := keyOf76 hwf.1 hwf.2.1
      have HP : Hid (ps0[k]? = some p) := hp
      have hm1 := hmap.kept (Kept.alloc wr (.cells #[.string p.svc, .int .i64 p.num, .string p.rule, .slice p.ra p.reps.length p.rc] 58)) (by simp)
      have hk1 := hkept.next (Kept.alloc wr (.cells #[.string p.svc, .int .i64 p.num, .string p.rule, .slice p.ra p.reps.length p.rc] 58))
      have HK1 : Hid (Kept [] _ _) := hk1
      clear hp hwf r hc hmap hkept hr0 hr1 hk1
      go_wp2_with (at_mapUpdate; refine wpList_put_map rfl 74 (.tmp 28) (.tmp 33) (.tmp 35) rfl 76 54 key76 Try.underlying74 w.heap.size k (f0 ps0 k) (f0 ps0 (k + 1)) rfl hm1 (by unfold maxLen; omega) (keyV p.svc p.num) (sliceOf p) rfl rfl HK (f0_here HP.out) (fun y hy => f0_else HP.out hy) ?_; intro w1 hm2 hk2)
      go_roundw
      case rel => exact ⟨k + 1, by omega, by go_num, hm2, HK1.out.trans hk2 (fun j hj hj2 => by simp at hj; omega)⟩
      case measure => simp [intOf]; omega
    · obtain rfl : k = n0 := by omega
      have hS0 : St w k ps0 (wr.alloc (.cells #[] 60)) wr.heap.size 0 0 (mvTo ps0 ps1 0) := by
        have := St.start hmap hkept hmap.lt
        simpa [mvTo, moves] using this
      obtain ⟨i0, hi, hz0, hz1, hz2⟩ := info_parts info60
      clear hmap hkept
      go_wp2
      go_loopw [8, 40] (fun v i wr => ∃ j g L cap : Nat, j ≤ n1 ∧ i = .int .i64 j ∧ v = .slice (some ⟨g, 0, none⟩) L cap ∧ St w k ps0 wr g L cap (mvTo ps0 ps1 j)) (fun _ i _ => n1 - (intOf i).toNat)
      case atStart => exact ⟨0, _, 0, 0, Nat.zero_le _, rfl, rfl, hS0⟩
      case round =>
        clear hS0
        obtain ⟨j, g, L, cap, hj, rfl, rfl, hS⟩ := hrel
        by_cases hlt1 : j < n1
        · obtain ⟨p, hp⟩ := getElem?_lt HL1.out hlt1
          obtain ⟨b, off, rfl, d0, d1, d2, d3, r, hc⟩ := (hr1.kept hS.kept).at hp
          have hwf := HW1.out p (List.mem_of_getElem? hp)
          have hfw := HF1.out.2 p (List.mem_of_getElem? hp)
          have HP : Hid (ps1[j]? = some p) := hp
          have HMV := moves_snoc (ps0.map core) hp
          have HM0 := moves_take_le (ps0.map core) HF1.out j
          have HX : Hid (mvTo ps0 ps1 (j + 1) = mvTo ps0 ps1 j ++ mvP (ps0.map core) (core p)) := HMV
          have HM1 : Hid ((mvTo ps0 ps1 j).length ≤ 4096 * 4096) := HM0
          obtain ⟨svc, num, rule, ra, rc, reps⟩ := p
          have HWR : Hid (∀ r ∈ reps, (Lit.int .i64 r.num).wf = true) := hwf.2.2
          have HK := keyOf76 hwf.1 hwf.2.1
          simp only at d0 d1 d2 d3 r hc hfw HK
          have hS1 := hS.on (Kept.alloc wr (.cells #[.string svc, .int .i64 num, .string rule, .slice ra reps.length rc] 58))
          have hm1 := hS1.map
          rcases look0 ps0 k HL0.out svc num reps with ⟨hu, hv⟩ | ⟨j0, p0, hj0, hu, hv⟩
          · have HU : (f0 ps0 k (keyV svc num)).getD (.slice none 0 0) = .slice none 0 0 := by rw [hu]; rfl
            have HV : Hid (mvP (ps0.map core) ⟨svc, num, reps⟩ = []) := hv
            clear hp hwf HMV HM0 hu hv r hc
            go_wp2_with (at_lookup; refine wpList_look_map rfl 74 (.tmp 44) (.tmp 49) rfl 76 54 key76 Try.underlying74 (.slice none 0 0) (zero54 _) w.heap.size k (f0 ps0 k) rfl hm1 (keyV svc num) rfl HK _ HU ?_)
            go_roundw
            case rel =>
              refine ⟨j + 1, g, L, cap, by omega, by go_num, rfl, ?_⟩
              rw [HX.out, show mvP (ps0.map core) (core ⟨svc, num, rule, ra, rc, reps⟩) = [] from HV.out, List.append_nil]
              exact hS1
            case measure => simp [intOf]; omega
          · obtain ⟨_, _, ea, _, _, _, _, r0, hc0⟩ := (hr0.kept hS1.kept).at hj0
            clear ea
            have HU : (f0 ps0 k (keyV svc num)).getD (.slice none 0 0) = .slice p0.ra p0.reps.length p0.rc := by rw [hu]; rfl
            have HV : Hid (mvP (ps0.map core) ⟨svc, num, reps⟩ = reps.flatMap (mvR ⟨svc, num, reps⟩ p0.reps)) := hv
            have hf0 := HF0.out.2 p0 (List.mem_of_getElem? hj0)
            have HWW : Hid (∀ r ∈ p0.reps, (Lit.int .i64 r.num).wf = true) := (HW0.out p0 (List.mem_of_getElem? hj0)).2.2
            obtain ⟨psvc, pnum, prule, wra, wrc, was⟩ := p0
            simp only at r0 hc0 HU hf0 HWW HV
            clear hp hwf HMV HM0 hu hv hj0
            by_cases hz : was.length = 0
            · rw [hz] at HU
              have HZ : Hid (was = []) := List.eq_nil_of_length_eq_zero hz
              clear r hc r0 hz
              go_wp2_with (at_lookup; refine wpList_look_map rfl 74 (.tmp 44) (.tmp 49) rfl 76 54 key76 Try.underlying74 (.slice none 0 0) (zero54 _) w.heap.size k (f0 ps0 k) rfl hm1 (keyV svc num) rfl HK _ HU ?_)
              go_roundw
              case rel =>
                first | refine ⟨j + 1, g, L, cap, by omega, by go_num, rfl, ?_⟩ | refine ⟨_, _, _, _, _, _, _, _, _, ⟨j + 1, by omega, rfl, g, L, cap, rfl, ?_⟩, rfl, rfl, rfl, rfl, rfl, rfl, rfl, rfl, by go_num⟩
                rw [HX.out, show mvP (ps0.map core) (core ⟨svc, num, rule, ra, rc, reps⟩) = [] from HV.out.trans (by rw [HZ.out]; exact flatMap_nil_of (mvR_nil _) reps), List.append_nil]
                exact hS1
              case measure => simp [intOf]; omega
            · have hzb : ((was.length : Int) == 0) = false := by simpa using hz
              go_wp2_with (at_lookup; refine wpList_look_map rfl 74 (.tmp 44) (.tmp 49) rfl 76 54 key76 Try.underlying74 (.slice none 0 0) (zero54 _) w.heap.size k (f0 ps0 k) rfl hm1 (keyV svc num) rfl HK _ HU ?_)
              have hS2 := hS1
              have LC := cells4 wr (.string svc) (.int .i64 num) (.string rule) (.slice ra reps.length rc) 58
              have hsz : (wr.alloc (.cells #[.string svc, .int .i64 num, .string rule, .slice ra reps.length rc] 58)).heap.size = wr.heap.size + 1 := by simp
              have hbase : w.heap.size < wr.heap.size := Nat.lt_of_lt_of_le hS.map.lt (Nat.le_refl _)
              have hgl := hS.lt
              have hr2 := r.kept (Kept.alloc wr (.cells #[.string svc, .int .i64 num, .string rule, .slice ra reps.length rc] 58))
              clear d0 d1 d2 d3 hm1 hS1 r hS HK HU
              generalize hwa : wr.alloc (.cells #[.string svc, .int .i64 num, .string rule, .slice ra reps.length rc] 58) = wa at *
              have hM2 := mapV_made wa 3
              rw [hsz] at hM2
              clear hwa
              generalize wr.heap.size = g1 at *
              go_loopw [59] (fun i wq => ∃ q : Nat, q ≤ was.length ∧ i = .int .i64 q ∧ MapV wq 3 (g1 + 1) q (f2 was q) ∧ Kept [] wa wq) (fun i _ => was.length - (intOf i).toNat)
              case atStart => exact ⟨0, Nat.zero_le _, rfl, hM2.congr (f2_zero was), Kept.alloc _ _⟩
              case round =>
                clear hM2
                obtain ⟨q, hq, rfl, hmap, hkept⟩ := hrel
                by_cases hlt2 : q < was.length
                · obtain ⟨r1, hr1'⟩ := getElem?_lt rfl hlt2
                  obtain ⟨b1, off1, e1, d0, d1, d2, d3⟩ := (r0.kept hkept).at hr1'
                  subst e1
                  have HK := keyOf3 (HWW.out r1 (List.mem_of_getElem? hr1'))
                  have HR1 : Hid (was[q]? = some r1) := hr1'
                  have hm1 := hmap.kept (Kept.alloc wr (.cells #[.int .i64 r1.num, .string r1.node, .string r1.fd, .string r1.ud] 56)) (by simp)
                  have HK1 : Hid (Kept [] _ _) := hkept.next (Kept.alloc wr (.cells #[.int .i64 r1.num, .string r1.node, .string r1.fd, .string r1.ud] 56))
                  clear hr1' hmap hkept r0 hr0 hr1 hr2 hS2 LC
                  go_wp2_with (at_mapUpdate; refine wpList_put_map rfl 77 (.tmp 63) (.tmp 65) (.tmp 67) rfl 3 9 key3 Try.underlying77 (g1 + 1) q (f2 was q) (f2 was (q + 1)) rfl hm1 (by unfold maxLen; omega) (.int .i64 r1.num) (.string r1.node) rfl rfl HK (f2_here HR1.out) (fun y hy => f2_else HR1.out hy) ?_; intro w1 hm2 hk2)
                  go_roundw
                  case rel => exact ⟨q + 1, by omega, by go_num, hm2, HK1.out.trans hk2 (fun j hj hj2 => by simp at hj; omega)⟩
                  case measure => simp [intOf]; omega
                · obtain rfl : q = was.length := by omega
                  have l3 := cell_kept LC.2.2.2 hkept
                  have HST : St4 w k ps0 g1 was.length was svc num wr g L cap (mvTo ps0 ps1 j ++ (reps.take 0).flatMap (mvR ⟨svc, num, reps⟩ was)) :=
                    ⟨by simpa using hS2.on hkept, hmap, cell_kept LC.1 hkept, cell_kept LC.2.1 hkept, by omega, by omega, hbase⟩
                  clear hmap hkept r0 hS2 LC hr2
                  go_wp2
                  go_loopw [8, 72] (fun v i wq => ∃ q g L cap : Nat, q ≤ reps.length ∧ i = .int .i64 q ∧ v = .slice (some ⟨g, 0, none⟩) L cap ∧ St4 w k ps0 g1 was.length was svc num wq g L cap (mvTo ps0 ps1 j ++ (reps.take q).flatMap (mvR ⟨svc, num, reps⟩ was))) (fun _ i _ => reps.length - (intOf i).toNat)
                  case atStart => exact ⟨0, _, _, _, Nat.zero_le _, rfl, rfl, HST⟩
                  case round =>
                    clear HST l3 hgl
                    obtain ⟨q, g, L, cap, hq, rfl, rfl, hS4⟩ := hrel
                    by_cases hlt3 : q < reps.length
                    · obtain ⟨r1, hr1'⟩ := getElem?_lt rfl hlt3
                      obtain ⟨_, _, eb, _, _, _, _, r, _⟩ := (hr1.kept hS4.st.kept).at HP.out
                      clear eb
                      obtain ⟨b1, off1, e1, d0, d1, d2, d3⟩ := r.at hr1'
                      simp only at e1
                      subst e1
                      have HK := keyOf3 (HWR.out r1 (List.mem_of_getElem? hr1'))
                      have HT : Hid ((reps.take (q + 1)).flatMap (mvR ⟨svc, num, reps⟩ was) = (reps.take q).flatMap (mvR ⟨svc, num, reps⟩ was) ++ mvR ⟨svc, num, reps⟩ was r1) := by
                        show _ = _
                        rw [take_snoc_of hr1']; simp
                      have hS5 := hS4.next (Kept.alloc wr (.cells #[.int .i64 r1.num, .string r1.node, .string r1.fd, .string r1.ud] 56))
                      have hm1 := hS5.on
                      have l0 := hS5.c0
                      have l1 := hS5.c1
                      have hLb : L ≤ 4096 * 4096 + 4096 := by
                        have h1 := hS4.st.len
                        have h2 := HM1.out
                        have h3 := reps_take_le ⟨svc, num, reps⟩ was reps hfw q
                        rw [List.length_append] at h1
                        exact h1 ▸ Nat.add_le_add h2 h3
                      clear hr1' r
                      rcases look2 was was.length rfl ⟨svc, num, reps⟩ r1 with ⟨hu, hv⟩ | ⟨x, hu, hv⟩
                      · have HU : (f2 was was.length (.int .i64 r1.num)).getD (.string ByteArray.empty) = .string ByteArray.empty := by rw [hu]; rfl
                        have HOK : (f2 was was.length (.int .i64 r1.num)).isSome = false := by rw [hu]; rfl
                        have HV2 : Hid (mvR ⟨svc, num, reps⟩ was r1 = []) := hv
                        clear hu hv
                        go_wp2_with (at_lookup; refine wpList_look_ok_map rfl 77 (.tmp 77) (.tmp 79) rfl 3 9 key3 Try.underlying77 (.string ByteArray.empty) (zero9 _) (g1 + 1) was.length (f2 was was.length) rfl hm1 (.int .i64 r1.num) rfl HK _ HU _ HOK ?_)
                        go_roundw
                        case rel =>
                          first | refine ⟨q + 1, g, L, cap, by omega, by go_num, rfl, ?_⟩ | refine ⟨_, _, _, _, _, ⟨q + 1, by omega, rfl, g, L, cap, rfl, ?_⟩, rfl, rfl, rfl, rfl, by go_num⟩
                          rw [HT.out, HV2.out, List.append_nil]
                          exact hS5
                        case measure => simp [intOf]; omega
                      · have HU : (f2 was was.length (.int .i64 r1.num)).getD (.string ByteArray.empty) = .string x := by rw [hu]; rfl
                        have HOK : (f2 was was.length (.int .i64 r1.num)).isSome = true := by rw [hu]; rfl
                        by_cases hxe : x = r1.node
                        · have HV2 : Hid (mvR ⟨svc, num, reps⟩ was r1 = []) := by show _ = _; rw [hv, if_pos hxe]
                          clear hu hv
                          subst hxe
                          go_wp2_with (at_lookup; refine wpList_look_ok_map rfl 77 (.tmp 77) (.tmp 79) rfl 3 9 key3 Try.underlying77 (.string ByteArray.empty) (zero9 _) (g1 + 1) was.length (f2 was was.length) rfl hm1 (.int .i64 r1.num) rfl HK _ HU _ HOK ?_)
                          go_roundw
                          case rel =>
                            first | refine ⟨q + 1, g, L, cap, by omega, by go_num, rfl, ?_⟩ | refine ⟨_, _, _, _, _, ⟨q + 1, by omega, rfl, g, L, cap, rfl, ?_⟩, rfl, rfl, rfl, rfl, by go_num⟩
                            rw [HT.out, HV2.out, List.append_nil]
                            exact hS5
                          case measure => simp [intOf]; omega
                        · have HV2 : Hid (mvR ⟨svc, num, reps⟩ was r1 = [⟨svc, num, r1.num, x, r1.node⟩]) := by show _ = _; rw [hv, if_neg hxe]
                          have hxb : (x.toList == r1.node.toList) = false := (Lib.bytes_beq_false_iff _ _).2 hxe
                          have hS6 := hS5.next (Kept.alloc (wr.alloc (.cells #[.int .i64 r1.num, .string r1.node, .string r1.fd, .string r1.ud] 56)) (.cells #[.string svc, .int .i64 num, .int .i64 r1.num, .string x, .string r1.node] 60))
                          have hrow := hS6.st.row
                          have hnew := cells5_new (wr.alloc (.cells #[.int .i64 r1.num, .string r1.node, .string r1.fd, .string r1.ud] 56)) ⟨svc, num, r1.num, x, r1.node⟩ 60
                          have hs6 : w.heap.size ≤ wr.heap.size + 2 := by have := hS4.st.kept.size; omega
                          have HS6 : Hid (St4 _ _ _ _ _ _ _ _ _ _ _ _ _) := hS6
                          clear hu hv hS6 hS5 hS4
                          go_wp2_with (first
                            | (at_lookup; refine wpList_look_ok_map rfl 77 (.tmp 77) (.tmp 79) rfl 3 9 key3 Try.underlying77 (.string ByteArray.empty) (zero9 _) (g1 + 1) was.length (f2 was was.length) rfl hm1 (.int .i64 r1.num) rfl HK _ HU _ HOK ?_)
                            | (at_builtin; refine wpList_append_lies _ rfl (.tmp 90) (.tmp 101) 28 rfl w.heap.size 60 i0 _ 5 64 Try.underlying28 hi hz0 hz1 hz2 rfl (by decide) (.slice (some ⟨g, 0, none⟩) L cap) L _ rfl hrow ⟨wr.heap.size + 1, 0, none⟩ 1 1 (cellsM ⟨svc, num, r1.num, x, r1.node⟩) rfl rfl (by simpa using hnew) (cellsM_one _) (by decide) (by unfold maxLen; omega) (by omega) (by simpa using hs6) (wr.heap.size + 2) (by simp) ?_; intro g' cap' w' hown hgrow hat hlt4))
                          go_roundw
                          case rel =>
                            first | refine ⟨q + 1, g', L + 1, cap', by omega, by go_num, rfl, ?_⟩ | refine ⟨_, _, _, _, _, ⟨q + 1, by omega, rfl, g', L + 1, cap', rfl, ?_⟩, rfl, rfl, rfl, rfl, by go_num⟩
                            rw [HT.out, HV2.out, ← List.append_assoc]
                            exact HS6.out.app _ hown hgrow (by rcases hat with h | h; exact .inl h; exact .inr (by simpa using h)) hlt4
                          case measure => simp [intOf]; omega
                    · obtain rfl : q = reps.length := by omega
                      go_wp2
                      go_roundw
                      case rel =>
                        first | refine ⟨j + 1, g, L, cap, by omega, by go_num, rfl, ?_⟩ | refine ⟨_, _, _, _, _, _, _, _, .int .i64 ((j : Int) + 1), _, _, _, _, _, _, _, _, _, _, _, _, _, _, _, _, _, _, _, _, _, _, _, _, _, _, _, _, _, _, _, _, _, _, _, _, _, _, _, _, _, _, _, _, _, _, _, _, _, _, _, _, _, _, _, _, _, _, _, _, _, _, _, _, ⟨j + 1, g, L, cap, by omega, by go_num, rfl, ?_⟩, rfl⟩
                        have := hS4.st
                        rw [List.take_length, ← HV.out] at this
                        rw [HX.out]
                        exact this
                      case measure => simp [intOf]; omega
        · obtain rfl : j = n1 := by omega
          go_wp2
          go_ret
          have hS2 : St w k ps0 wr g L cap (moves (ps0.map core) (ps1.map core)) := by
            have := hS
            unfold mvTo at this
            rwa [← HL1.out, List.take_length] at this
          obtain rfl := hS2.len
          exact ⟨g, cap, rfl, hS2.row, hS2.kept⟩

end Go.Proofs.Qxb6601940a
