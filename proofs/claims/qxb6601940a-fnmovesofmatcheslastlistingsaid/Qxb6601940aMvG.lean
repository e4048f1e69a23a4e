import Derived.Test.Qxb6601940aMvD
namespace Go.Proofs.Qxb6601940a
open Go.RowKit
set_option linter.unusedVariables false

set_option maxHeartbeats 400000 in
theorem cp_nil (w : World) : Calls Try.prog 14 #[.slice none 0 0] w (Cloned 0 true [] w) := by
  have q22 : ∀ (w : World) (a : Option Addr) (n c n' c' : Nat), (binOp .eql 22 (.slice a n c) (.slice none n' c')).run Try.prog w = .ok (.bool a.isNone) w := fun w a n c n' c' => Lib.run_eql_slice_nil w _ _ a n c n' c' Try.underlying22
  go_enter Try.func14, Try.ntmps14
  go_wp2
  go_ret
  exact ⟨none, 0, [], rfl, rfl, ⟨fun _ => rfl, fun x hx => (by cases hx)⟩, rfl, fun _ => rfl, rfl, Kept.refl _ _⟩

set_option maxHeartbeats 4000000 in
set_option maxRecDepth 100000 in
theorem cp_some (x : Addr) (n c : Nat) (ps : List Pt) (w : World) (hl : ps.length = n) (hr : RdP w (some x) ps) (hm : Few ps) :
    Calls Try.prog 14 #[.slice (some x) n c] w (Cloned n false ps w) := by
  obtain ⟨i0, hi, hz0, hz1, hz2⟩ := info_parts info51
  obtain ⟨j0, hj, hy0, hy1, hy2⟩ := info_parts info53
  have q22 : ∀ (w : World) (a : Option Addr) (n c n' c' : Nat), (binOp .eql 22 (.slice a n c) (.slice none n' c')).run Try.prog w = .ok (.bool a.isNone) w := fun w a n c n' c' => Lib.run_eql_slice_nil w _ _ a n c n' c' Try.underlying22
  have q49 : ∀ (w : World) (a : Option Addr) (n c n' c' : Nat), (binOp .neq 49 (.slice a n c) (.slice none n' c')).run Try.prog w = .ok (.bool (!a.isNone)) w := fun w a n c n' c' => run_neq_slice_nil_any w _ _ a n c n' c' Try.underlying49
  have HL : Hid (ps.length = n) := hl
  have HM : Hid (Few ps) := hm
  have hn : n ≤ 4096 := by have := hm.1; omega
  clear hl hm
  go_enter Try.func14, Try.ntmps14
  go_wp2_with (first
    | (at_make; refine wpList_make_full _ rfl (.tmp 11) (.tmp 11) 22 rfl w.heap.size 51 i0 _ 4 Try.underlying22 hi hz0 hz1 _ _ _ _ n rfl rfl rfl rfl (by rw [hz2]; omega) (by unfold maxLen; omega) (Nat.le_refl _) ?_; intro w2 hown2 hgrow2))
  have hC0 : Cl w w2 w.heap.size n 0 ps [] := Cl.start (fill_made hown2) (Kept.ofNew hgrow2) (Nat.le_refl _)
  clear hown2 hgrow2
  go_loopw [4] (fun i wr => ∃ k : Nat, ∃ qs : List Pt, k ≤ n ∧ i = .int .i64 k ∧ Cl w wr w.heap.size n k ps qs) (fun i _ => n - (intOf i).toNat)
  case atStart => exact ⟨0, [], Nat.zero_le _, rfl, hC0⟩
  case round =>
    clear hC0
    obtain ⟨k, qs, hk, rfl, hC⟩ := hrel
    by_cases hlt : k < n
    · obtain ⟨p, hp⟩ := getElem?_lt HL.out hlt
      obtain ⟨b, off, e, c0, c1, c2, c3, r, hc⟩ := (hr.kept hC.kept).at hp
      cases e
      have hm1 := HM.out.2 p (List.mem_of_getElem? hp)
      have HP : Hid (ps[k]? = some p) := hp
      clear hp hr
      obtain ⟨svc, num, rule, ra, rc, reps⟩ := p
      simp only at c0 c1 c2 c3 r hc hm1
      obtain ⟨o, ho⟩ : ∃ o, o = Obj.cells #[.string svc, .int .i64 num, .string rule, .slice ra reps.length rc] 51 := ⟨_, rfl⟩
      have HO : Hid (o = Obj.cells #[.string svc, .int .i64 num, .string rule, .slice ra reps.length rc] 51) := ho
      have hC1 : Cl w (wr.alloc o) w.heap.size n k ps qs := hC.on (Kept.alloc _ _)
      have hth := hC1.fill.at hlt
      rw [ho] at hth
      have HC1 := hC1
      have hsz := hC.kept.size
      clear ho hC
      cases ra with
      | none =>
        obtain rfl : rc = 0 := hc rfl
        obtain rfl : reps = [] := r.1 rfl
        go_wp2_with (refine storeAt 51 (.tmp 55) (.tmp 54) four51 ?_; refine ⟨w.heap.size, k * 4, _, _, _, _, rfl, rfl, hth, rfl, rfl, rfl, rfl, ?_⟩)
        go_roundw
        case rel =>
          have := HC1.next hlt HP.out (q := ⟨svc, num, rule, none, 0, []⟩) rfl ⟨fun _ => rfl, fun x hx => (by cases hx)⟩ (fun _ => rfl) (fun x hx => by cases hx)
          rw [HO.out] at this
          exact ⟨k + 1, _, by omega, by go_num, this⟩
        case measure => simp [intOf]; omega
      | some y =>
        clear hth
        go_wp2_with (first
          | (at_make; refine wpList_make_full _ rfl (.tmp 28) (.tmp 28) 49 rfl (wr.heap.size + 1) 53 j0 _ 4 Try.underlying49 hj hy0 hy1 _ _ _ _ reps.length rfl rfl rfl rfl (by rw [hy2]; omega) (by unfold maxLen; omega) (by simp) ?_; intro w3 hown3 hgrow3))
        have L := cells4 wr (.string svc) (.int .i64 num) (.string rule) (.slice (some y) reps.length rc) 51
        rw [← HO.out] at L
        have HQ : Cq (wr.alloc o) w3 (wr.heap.size + 1) reps.length 0 reps := Cq.start (fill_made (by simpa using hown3)) (by rw [HO.out]; exact Kept.ofNew hgrow3) (by simp)
        have r2 := r.kept (Kept.alloc wr o)
        have hlt3 : w.heap.size < wr.heap.size + 1 := by omega
        clear hown3 hgrow3 c0 c1 c2 c3 HO hC1 r
        generalize wr.alloc o = wa at *
        generalize wr.heap.size = g1 at *
        go_loopw [7] (fun j wq => ∃ q : Nat, q ≤ reps.length ∧ j = .int .i64 q ∧ Cq wa wq (g1 + 1) reps.length q reps) (fun j _ => reps.length - (intOf j).toNat)
        case atStart => exact ⟨0, Nat.zero_le _, rfl, HQ⟩
        case round =>
          clear HQ w3
          obtain ⟨q, hq, rfl, hQ⟩ := hrel
          have l0 := cell_kept L.1 hQ.kept
          have l1 := cell_kept L.2.1 hQ.kept
          have l2 := cell_kept L.2.2.1 hQ.kept
          have l3 := cell_kept L.2.2.2 hQ.kept
          by_cases hlt2 : q < reps.length
          · obtain ⟨r1, hr1⟩ := getElem?_lt rfl hlt2
            obtain ⟨b1, off1, e1, d0, d1, d2, d3⟩ := (r2.kept hQ.kept).at hr1
            cases e1
            have HR1 : Hid (reps[q]? = some r1) := hr1
            have hth := hQ.fill.at hlt2
            clear hr1
            go_wp2_with (refine storeAt 53 (.tmp 44) (.tmp 43) four53 ?_; refine ⟨g1 + 1, q * 4, _, _, _, _, rfl, rfl, hth, rfl, rfl, rfl, rfl, ?_⟩)
            go_roundw
            case rel => exact ⟨q + 1, by omega, by go_num, hQ.next rfl hlt2 HR1.out⟩
            case measure => simp [intOf]; omega
          · obtain rfl : q = reps.length := by omega
            have hth := (HC1.on hQ.kept).fill.at hlt
            go_wp2_with (refine storeAt 51 (.tmp 55) (.tmp 54) four51 ?_; refine ⟨w.heap.size, k * 4, _, _, _, _, rfl, rfl, hth, rfl, rfl, rfl, rfl, ?_⟩)
            go_roundw
            case rel =>
              have := (HC1.on hQ.kept).next hlt HP.out (q := ⟨svc, num, rule, some ⟨g1 + 1, 0, none⟩, reps.length, reps⟩) rfl (hQ.done rfl) (fun h => by cases h) (fun x hx => by cases hx; exact hlt3)
              exact ⟨k + 1, _, by omega, by go_num, this⟩
            case measure => simp [intOf]; omega
    · obtain rfl : k = n := by omega
      go_wp2
      go_ret
      exact hC.done HL.out

end Go.Proofs.Qxb6601940a
