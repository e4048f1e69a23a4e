import Derived.Test.Qxb6601532aD
namespace Go.Proofs.Qxb6601532a
open Go.RowKit
set_option linter.unusedVariables false

theorem Try.size79 : (Try.prog.info? 79).map (·.size) = some 2 := by kernel_rfl

/-- 256 bools, none set. -/
def Z80 : Array Value := Array.replicate 256 (.bool false)
theorem Z80_length : Z80.toList.length = 256 := by rw [Z80, Array.toList_replicate, List.length_replicate]
theorem run_alloc80 (w : World) : (Instr.alloc 80 true (.tuple #[])).run Try.prog w = .ok (.pointer (some ⟨w.heap.size, 0, none⟩)) (w.alloc (.cells Z80 80)) := by kernel_rfl
theorem wpList_alloc80 {ops : Array Oper} {rest : List Oper} {o : Oper} {a : Act} {w : World} {Q : Exit → Act → World → Prop} (hgd : o.guard = none) (ho : o.op = .alloc 80)
    (h : wpList Try.prog ops Q rest (a.put o.dst (.pointer (some ⟨w.heap.size, 0, none⟩))) (w.alloc (.cells Z80 80))) : wpList Try.prog ops Q (o :: rest) a w :=
  wpList_plain hgd fun K hK => by
    unfold Oper.wp execOp
    simp only [ho, Sem.run_bind, Sem.run_pure, Result.andThen_ok, run_alloc80]
    exact hK _ _ h

theorem heap_many {e : TypeId} {g : Nat} : ∀ (vs : List Value) (w : World) (cur : Array Value) (o : Nat), w.heap[g]? = some (.cells cur e (0, 0)) →
    ∃ cur' : Array Value, (w.setCells g o vs).heap[g]? = some (.cells cur' e (0, 0)) ∧ cur'.toList = setMany cur.toList o vs ∧ Kept [some g] w (w.setCells g o vs)
  | [], w, cur, o, h => ⟨cur, h, rfl, Kept.refl _ _⟩
  | v :: r, w, cur, o, h => by
    have h1 := heap_setCell_same w g o cur e v h
    obtain ⟨cur', h2, h3, h4⟩ := heap_many r _ _ (o + 1) h1
    have k : Kept [some g] w (w.setCell ⟨g, o, none⟩ v) := ⟨rfl, rfl, rfl, by simp [World.setCell], fun k _ hk => Below.heap_setCell _ _ _ _ (fun e => hk (by simp [e]))⟩
    exact ⟨cur', h2, by rw [h3, Array.toList_setIfInBounds]; rfl, k.trans h4 (by intro k hk _; exact hk)⟩

/-- The i-th token lies in the row. -/
def TokAt (w : World) (cur : Array Value) (st S : Nat → Bool) (i : Nat) : Prop :=
  cur[i * 2]? = some (.bool (st i)) ∧ ∃ pv, cur[i * 2 + 1]? = some (.pointer pv) ∧
    (st i = false → ∃ (pb : Nat) (cs : Array Value), pv = some ⟨pb, 0, none⟩ ∧ w.heap[pb]? = some (.cells cs 80 (0, 0)) ∧ ∀ b, b < 256 → cs[b]? = some (.bool (S (i * 256 + b))))
/-- The first k tokens of n lie in block gt. -/
def Toks (w : World) (gt n k : Nat) (st S : Nat → Bool) : Prop :=
  ∃ cur : Array Value, w.heap[gt]? = some (.cells cur 79 (0, 0)) ∧ cur.size = n * 2 ∧ ∀ i, i < k → TokAt w cur st S i

theorem Toks.kept {w w' : World} {gt n k : Nat} {st S : Nat → Bool} (h : Toks w gt n k st S) (hk : Kept [] w w') : Toks w' gt n k st S := by
  obtain ⟨cur, h1, h2, h3⟩ := h
  have hb : ∀ (g : Nat) (o : Obj), w.heap[g]? = some o → w'.heap[g]? = some o := fun g o hg => (hk.block g (Array.getElem?_eq_some_iff.1 hg).1 (by simp)).trans hg
  refine ⟨cur, hb _ _ h1, h2, fun i hi => ?_⟩
  obtain ⟨q1, pv, q2, q3⟩ := h3 i hi
  refine ⟨q1, pv, q2, fun hs => ?_⟩
  obtain ⟨pb, cs, e1, e2, e3⟩ := q3 hs
  exact ⟨pb, cs, e1, hb _ _ e2, e3⟩

/-- One token more. -/
theorem Toks.next {w : World} {gt n k : Nat} {st S : Nat → Bool} (h : Toks w gt n k st S) (hk : k < n) (pv : Option Addr)
    (hpv : st k = false → ∃ (pb : Nat) (cs : Array Value), pv = some ⟨pb, 0, none⟩ ∧ w.heap[pb]? = some (.cells cs 80 (0, 0)) ∧ ∀ b, b < 256 → cs[b]? = some (.bool (S (k * 256 + b)))) :
    Toks (w.setCells gt (k * 2) [.bool (st k), .pointer pv]) gt n (k + 1) st S ∧ Kept [some gt] w (w.setCells gt (k * 2) [.bool (st k), .pointer pv]) := by
  obtain ⟨cur, h1, h2, h3⟩ := h
  obtain ⟨cur', c1, c2, c3⟩ := heap_many [.bool (st k), .pointer pv] w cur (k * 2) h1
  have hlen : cur.toList.length = n * 2 := by rw [Array.length_toList]; exact h2
  have hat : ∀ j, cur'[j]? = if k * 2 ≤ j ∧ j < k * 2 + 2 then [Value.bool (st k), .pointer pv][j - k * 2]? else cur[j]? := by
    intro j
    rw [← Array.getElem?_toList, c2, setMany_at _ _ _ _ (by rw [hlen]; simp; omega)]
    simp only [List.length_cons, List.length_nil, Nat.zero_add, Nat.reduceAdd, Array.getElem?_toList]
  have hother : ∀ (g : Nat) (cs : Array Value), w.heap[g]? = some (.cells cs 80 (0, 0)) → (w.setCells gt (k * 2) [.bool (st k), .pointer pv]).heap[g]? = some (.cells cs 80 (0, 0)) := by
    intro g cs hg
    refine (c3.block g (Array.getElem?_eq_some_iff.1 hg).1 ?_).trans hg
    intro hm
    simp only [List.mem_cons, Option.some.injEq, List.not_mem_nil, or_false] at hm
    subst hm
    rw [h1] at hg
    simp at hg
  have hsz : cur'.size = n * 2 := by
    have h5 : ∀ (vs xs : List Value) (o : Nat), (setMany xs o vs).length = xs.length := by
      intro vs
      induction vs with
      | nil => intro xs o; rfl
      | cons v r ih => intro xs o; rw [setMany, ih]; simp
    rw [← Array.length_toList, c2, h5, hlen]
  refine ⟨⟨cur', c1, hsz, fun i hi => ?_⟩, c3⟩
  by_cases hik : i = k
  · subst hik
    refine ⟨?_, pv, ?_, fun hs => ?_⟩
    · rw [hat, if_pos (by omega), Nat.sub_self]; rfl
    · rw [hat, if_pos (by omega), show i * 2 + 1 - i * 2 = 1 from by omega]; rfl
    · obtain ⟨pb, cs, e1, e2, e3⟩ := hpv hs
      exact ⟨pb, cs, e1, hother _ _ e2, e3⟩
  · obtain ⟨q1, pv', q2, q3⟩ := h3 i (by omega)
    refine ⟨?_, pv', ?_, fun hs => ?_⟩
    · rw [hat, if_neg (by omega)]; exact q1
    · rw [hat, if_neg (by omega)]; exact q2
    · obtain ⟨pb, cs, e1, e2, e3⟩ := q3 hs
      exact ⟨pb, cs, e1, hother _ _ e2, e3⟩

theorem Toks.there {w : World} {gt n k : Nat} {st S : Nat → Bool} (h : Toks w gt n k st S) {i : Nat} (hi : i < n) : w.there gt (i * 2) 2 := by
  obtain ⟨cur, h1, h2, _⟩ := h
  intro j hj
  refine ⟨?_, frozen_of_row w gt _ cur 79 h1⟩
  rw [cell_of_row w gt _ cur 79 (0, 0) h1]
  rw [Array.getElem?_eq_getElem (by omega)]
  rfl
theorem Toks.star {w : World} {gt n k : Nat} {st S : Nat → Bool} (h : Toks w gt n k st S) {i : Nat} (hi : i < k) : w.cell? ⟨gt, i * 2, none⟩ = some (.bool (st i)) := by
  obtain ⟨cur, h1, _, h3⟩ := h
  rw [cell_of_row w gt _ cur 79 (0, 0) h1]; exact (h3 i hi).1
theorem Toks.set {w : World} {gt n k : Nat} {st S : Nat → Bool} (h : Toks w gt n k st S) {i : Nat} (hi : i < k) (hs : st i = false) : ∃ pb, w.cell? ⟨gt, i * 2 + 1, none⟩ = some (.pointer (some ⟨pb, 0, none⟩)) ∧ ∀ b, b < 256 → w.cell? ⟨pb, b, none⟩ = some (.bool (S (i * 256 + b))) := by
  obtain ⟨cur, h1, _, h3⟩ := h
  obtain ⟨_, pv, q2, q3⟩ := h3 i hi
  obtain ⟨pb, cs, rfl, e2, e3⟩ := q3 hs
  exact ⟨pb, by rw [cell_of_row w gt _ cur 79 (0, 0) h1]; exact q2, fun b hb => by rw [cell_of_row w pb _ cs 80 (0, 0) e2]; exact e3 b hb⟩

set_option maxHeartbeats 400000 in
theorem tokens_any (a0 a1 : Option Addr) (n c0 c1 : Nat) (bs : List Bool) (S : Nat → Bool) (w : World) (B : Nat) (hn : n ≤ 4096) (hB : B ≤ w.heap.size) (h0 : OwnB w B (.slice a0 n c0) n bs) (h1 : OwnS w B (.slice a1 n c1) n S) :
    Calls Try.prog 46 #[.slice a0 n c0, .slice a1 n c1] w fun e w' => e = .returned (.slice (some ⟨w.heap.size, 0, none⟩) n n) ∧ Toks w' w.heap.size n n (fun i => bs.getD i false) S ∧ Kept [] w w' := by
  obtain ⟨i0, hi, hz0, hz1, hz2⟩ := info_parts Try.info79
  go_enter Try.func46, Try.ntmps46
  go_wp2_with (first | (at_make; refine wpList_make_full _ rfl _ _ 61 rfl w.heap.size 79 i0 (.agg #[.bool false, .pointer none]) 2 Try.underlying61 hi hz0 hz1 _ _ _ _ n rfl rfl rfl rfl (by rw [hz2]; omega) (by unfold maxLen; omega) (Nat.le_refl _) ?_; intro w1 hown1 hgrow1))
  have hA : Toks w1 w.heap.size n 0 (fun i => bs.getD i false) S := by
    rcases hown1.2 with ⟨hv, _⟩ | ⟨g, cap, cur, hv, _, hg, _, _, hsz, _⟩
    · simp at hv
    · simp only [Value.slice.injEq, Option.some.injEq, Addr.mk.injEq, and_true, true_and] at hv
      obtain ⟨rfl, rfl⟩ := hv
      exact ⟨cur, hg, hsz, fun i hi => by omega⟩
  have hK := Kept.ofNew hgrow1
  clear hown1 hgrow1
  go_loopw [6] (fun i wr => ∃ k : Nat, k ≤ n ∧ i = .int .i64 k ∧ Toks wr w.heap.size n k (fun i => bs.getD i false) S ∧ Kept [] w wr) (fun i _ => n - (intOf i).toNat)
  case atStart => exact ⟨0, Nat.zero_le _, rfl, hA, hK⟩
  case round =>
    clear hA hK
    obtain ⟨k, hk, rfl, htok, hkept⟩ := hrel
    by_cases hlt : k < n
    · obtain ⟨g0, c0', hv0, _⟩ := (h0.kept0 hkept).pos (by omega)
      simp only [Value.slice.injEq] at hv0
      obtain ⟨rfl, _, rfl⟩ := hv0
      have e0 := (h0.kept0 hkept).cell hlt
      have hth : Hid (wr.there w.heap.size (k * 2) 2) := htok.there hlt
      by_cases hst : bs.getD k false = true
      · rw [hst] at e0
        have R := htok.next hlt none (fun h => by rw [hst] at h; cases h)
        simp only [hst] at R
        have R2 := hkept.trans (S := []) R.2 (by intro j hj hj2; simp at hj; omega)
        have HR : Hid (Toks (wr.setCells w.heap.size (k * 2) [.bool true, .pointer none]) w.heap.size n (k + 1) (fun i => bs.getD i false) S ∧ Kept [] w (wr.setCells w.heap.size (k * 2) [.bool true, .pointer none])) := ⟨R.1, R2⟩
        have HS : Hid ((Try.prog.info? 79).map (·.size) = some (#[Value.bool true, .pointer none] : Array Value).size) := Try.size79
        have h1x : (#[Value.bool true, .pointer none] : Array Value).all (·.oneCell') = true := by simp [Value.oneCell']
        have H1 : Hid ((#[Value.bool true, .pointer none] : Array Value).all (·.oneCell') = true) := h1x
        clear h1x
        clear R R2 htok h0 h1
        go_wp2_with (first | (refine wpList_store_mid (by rfl) 79 (.tmp 24) (.tmp 23) (by rfl) w.heap.size (k * 2) #[.bool true, .pointer none] (by rfl) (by rfl) hth.out HS.out H1.out ?_))
        go_roundw
        case rel => exact ⟨k + 1, by omega, by go_num, HR.out.1, HR.out.2⟩
        case measure => simp [intOf]; omega
      · have hsf : bs.getD k false = false := by simpa using hst
        rw [hsf] at e0
        obtain ⟨g1, c1', hv1, _⟩ := (h1.kept0 hkept).pos (by omega)
        simp only [Value.slice.injEq] at hv1
        obtain ⟨rfl, _, rfl⟩ := hv1
        have hrg : Hid (wr.rangeAt g1 (k * 256) (oneSet S k)) := (h1.kept0 hkept).range hlt
        have HS : Hid ((Try.prog.info? 31).map (·.size) = some (oneSet S k).length) := oneSet_size31 S k
        have HS80 : Hid ((Try.prog.info? 80).map (·.size) = some (oneSet S k).toArray.size) := by
          show _ = some (oneSet S k).toArray.size
          rw [List.size_toArray, oneSet_length]; exact Try.size80
        have H1 : Hid ((oneSet S k).toArray.all (·.oneCell') = true) := all_oneCell_toArray (oneSet_one S k)
        have HXA : Hid (∀ b, b < 256 → (oneSet S k)[b]? = some (.bool (S (k * 256 + b)))) := fun b hb => oneSet_at S k b hb
        have HXL : Hid ((oneSet S k).length = 256) := oneSet_length S k
        have hth2 : Hid ((wr.alloc (.cells Z80 80)).there wr.heap.size 0 (oneSet S k).toArray.size) := by
          intro j hj
          rw [List.size_toArray, oneSet_length] at hj
          have hnew := heap_alloc_new wr (.cells Z80 80)
          refine ⟨?_, frozen_of_row _ _ _ Z80 80 hnew⟩
          rw [cell_of_row _ _ _ Z80 80 (0, 0) hnew, Nat.zero_add, Z80, Array.getElem?_replicate, if_pos hj]
          rfl
        generalize oneSet S k = X at *
        obtain ⟨cur', d1, d2, d3⟩ := heap_many X (wr.alloc (.cells Z80 80)) Z80 0 (heap_alloc_new wr _)
        have hcur : ∀ b, b < 256 → cur'[b]? = some (.bool (S (k * 256 + b))) := by
          intro b hb
          rw [← Array.getElem?_toList, d2, setMany_at _ _ _ _ (by rw [HXL.out, Z80_length]; exact Nat.le_refl _), HXL.out, if_pos (by omega), Nat.sub_zero]
          exact HXA.out b hb
        have KX : Kept [] wr ((wr.alloc (.cells Z80 80)).setCells wr.heap.size 0 X) := (Kept.alloc wr _).trans d3 (by intro j hj hj2; simp at hj; omega)
        have hth3 : Hid (((wr.alloc (.cells Z80 80)).setCells wr.heap.size 0 X).there w.heap.size (k * 2) 2) := (htok.kept KX).there hlt
        have R := (htok.kept KX).next hlt (some ⟨wr.heap.size, 0, none⟩) (fun _ => ⟨wr.heap.size, cur', rfl, d1, hcur⟩)
        simp only [hsf] at R
        have R2 := (hkept.next KX).trans (S := []) R.2 (by intro j hj hj2; simp at hj; omega)
        have HR : Hid (Toks (((wr.alloc (.cells Z80 80)).setCells wr.heap.size 0 X).setCells w.heap.size (k * 2) [.bool false, .pointer (some ⟨wr.heap.size, 0, none⟩)]) w.heap.size n (k + 1) (fun i => bs.getD i false) S ∧ Kept [] w (((wr.alloc (.cells Z80 80)).setCells wr.heap.size 0 X).setCells w.heap.size (k * 2) [.bool false, .pointer (some ⟨wr.heap.size, 0, none⟩)])) := ⟨R.1, R2⟩
        have HS79 : Hid ((Try.prog.info? 79).map (·.size) = some (#[Value.bool false, .pointer (some ⟨wr.heap.size, 0, none⟩)] : Array Value).size) := Try.size79
        have h1x : (#[Value.bool false, .pointer (some ⟨wr.heap.size, 0, none⟩)] : Array Value).all (·.oneCell') = true := by simp [Value.oneCell']
        have H79 : Hid ((#[Value.bool false, .pointer (some ⟨wr.heap.size, 0, none⟩)] : Array Value).all (·.oneCell') = true) := h1x
        clear h1x R R2 KX d1 d2 d3 hcur htok h0 h1
        go_wp2_with (first
          | (refine wpList_load_mid (by rfl) 31 (.tmp 27) (by rfl) g1 (k * 256) (by rfl) X (.array 256 4) hrg.out Try.underlying31 rfl HS.out ?_)
          | (refine wpList_alloc80 (by rfl) (by rfl) ?_)
          | (refine wpList_store_mid (by rfl) 80 (.tmp 7) (.tmp 28) (by rfl) wr.heap.size 0 X.toArray (by rfl) (by rfl) hth2.out HS80.out H1.out ?_)
          | (refine wpList_store_mid (by rfl) 79 (.tmp 32) (.tmp 31) (by rfl) w.heap.size (k * 2) #[.bool false, .pointer (some ⟨wr.heap.size, 0, none⟩)] (by rfl) (by rfl) hth3.out HS79.out H79.out ?_))
        go_roundw
        case rel => exact ⟨k + 1, by omega, by go_num, HR.out.1, HR.out.2⟩
        case measure => simp [intOf]; omega
    · obtain rfl : k = n := by omega
      go_wp2
      go_ret
      exact ⟨rfl, htok, hkept⟩

end Go.Proofs.Qxb6601532a
