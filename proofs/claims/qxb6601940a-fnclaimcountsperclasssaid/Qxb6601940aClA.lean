import Derived.Test.Qxb6601940aTopB
import Derived.Laws.CopyOwn
namespace Go.Proofs.Qxb6601940a
open Go.RowKit
set_option linter.unusedVariables false

/-- How many of xs are of class c. -/
def cnt (ofs : List Int) (xs : List Int) (c : Nat) : Nat := xs.countP fun x => ofs.getD x.toNat 0 == (c : Int)
theorem cnt_nil (ofs : List Int) (c : Nat) : cnt ofs [] c = 0 := rfl
theorem cnt_le (ofs xs : List Int) (c : Nat) : cnt ofs xs c ≤ xs.length := List.countP_le_length
theorem cnt_snoc (ofs xs : List Int) (x : Int) (c : Nat) : cnt ofs (xs ++ [x]) c = cnt ofs xs c + if ofs.getD x.toNat 0 = (c : Int) then 1 else 0 := by
  unfold cnt
  rw [List.countP_append]
  by_cases h : ofs.getD x.toNat 0 = (c : Int)
  · rw [if_pos h]
    simp only [List.countP_cons, List.countP_nil]
    rw [if_pos (by simpa using h)]
  · rw [if_neg h]
    simp only [List.countP_cons, List.countP_nil]
    rw [if_neg (by simpa using h)]
/-- Every x is a node, and its class is below cl. -/
def nodesB (ofs : List Int) (cl : Nat) (xs : List Int) : Bool := xs.all fun x => decide (0 ≤ x) && decide (x < (ofs.length : Int)) && decide (0 ≤ ofs.getD x.toNat 0) && decide (ofs.getD x.toNat 0 < (cl : Int))
theorem nodesB_at {ofs : List Int} {cl : Nat} {xs : List Int} (h : nodesB ofs cl xs = true) {j : Nat} (hj : j < xs.length) : ∃ xn c : Nat, xs.getD j 0 = (xn : Int) ∧ xn < ofs.length ∧ ofs.getD xn 0 = (c : Int) ∧ c < cl := by
  have h1 := List.all_eq_true.1 h _ (List.getElem_mem hj)
  simp only [Bool.and_eq_true, decide_eq_true_eq] at h1
  obtain ⟨⟨⟨h2, h3⟩, h4⟩, h5⟩ := h1
  obtain ⟨xn, hx⟩ := Int.eq_ofNat_of_zero_le h2
  have e1 : xs.getD j 0 = (xn : Int) := by rw [← hx]; simp [List.getD, hj]
  rw [hx] at h3 h4 h5
  rw [Int.toNat_natCast] at h4 h5
  obtain ⟨c, hc⟩ := Int.eq_ofNat_of_zero_le h4
  exact ⟨xn, c, e1, by omega, hc, by omega⟩
theorem take_snoc2 {ks : List Int} {k : Nat} (h : k < ks.length) : ks.take (k + 1) = ks.take k ++ [ks.getD k 0] := by
  rw [List.take_succ_eq_append_getElem h]; simp [List.getD, h]

/-- The counts taken down from the class sizes. -/
def Gd (ofs size gone : List Int) (k : Nat) : List Int := (List.range size.length).map fun c => wrap64 (size.getD c 0 - (cnt ofs (gone.take k) c : Int))
/-- The counts taken up from nought. -/
def Gu (ofs : List Int) (n : Nat) (ids : List Int) (k : Nat) : List Int := (List.range n).map fun c => (cnt ofs (ids.take k) c : Int)
theorem wrap64_wrap64 (a : Int) : wrap64 (wrap64 a - 1) = wrap64 (a - 1) := by unfold wrap64; omega
theorem wrap64_id {a : Int} (h1 : -9223372036854775808 ≤ a) (h2 : a ≤ 9223372036854775807) : wrap64 a = a := by unfold wrap64; omega
theorem Gd_zero {ofs size gone : List Int} (hs : ∀ z ∈ size, -9223372036854775808 ≤ z ∧ z ≤ 9223372036854775807) : Gd ofs size gone 0 = size := by
  apply List.ext_getElem
  · simp [Gd]
  · intro i h1 h2
    have hb := hs _ (List.getElem_mem h2)
    simp only [Gd, List.getElem_map, List.getElem_range, List.take_zero, cnt_nil]
    rw [show size.getD i 0 = size[i] from by simp [List.getD, h2]]
    simp only [Int.natCast_zero, Int.sub_zero]
    exact wrap64_id hb.1 hb.2
theorem Gd_at {ofs size gone : List Int} {k c : Nat} (hc : c < size.length) : (Gd ofs size gone k).getD c 0 = wrap64 (size.getD c 0 - (cnt ofs (gone.take k) c : Int)) := by
  simp [Gd, List.getD, hc]
theorem Gd_step {ofs size gone : List Int} {k xn c : Nat} (hk : k < gone.length) (hx : gone.getD k 0 = (xn : Int)) (hof : ofs.getD xn 0 = (c : Int)) (hc : c < size.length) : (Gd ofs size gone k).set c (wrap64 ((Gd ofs size gone k).getD c 0 - 1)) = Gd ofs size gone (k + 1) := by
  have hsn : ∀ i, cnt ofs (gone.take (k + 1)) i = cnt ofs (gone.take k) i + if c = i then 1 else 0 := by
    intro i
    rw [take_snoc2 hk, cnt_snoc, hx, Int.toNat_natCast, hof]
    by_cases e : c = i
    · subst e; simp
    · rw [if_neg (by omega), if_neg e]
  apply List.ext_getElem
  · simp [Gd]
  · intro i h1 h2
    rw [List.getElem_set]
    by_cases e : c = i
    · subst e
      rw [if_pos rfl, Gd_at hc, wrap64_wrap64]
      simp only [Gd, List.getElem_map, List.getElem_range]
      rw [hsn, if_pos rfl]
      congr 1; omega
    · rw [if_neg e]
      simp only [Gd, List.getElem_map, List.getElem_range]
      rw [hsn, if_neg e, Nat.add_zero]
theorem Gu_zero (ofs : List Int) (n : Nat) (ids : List Int) : Gu ofs n ids 0 = List.replicate n 0 := by
  apply List.ext_getElem <;> simp [Gu, cnt_nil]
theorem Gu_at {ofs : List Int} {n : Nat} {ids : List Int} {k c : Nat} (hc : c < n) : (Gu ofs n ids k).getD c 0 = (cnt ofs (ids.take k) c : Int) := by
  simp [Gu, List.getD, hc]
theorem Gu_step {ofs : List Int} {n : Nat} {ids : List Int} {k xn c : Nat} (hk : k < ids.length) (hx : ids.getD k 0 = (xn : Int)) (hof : ofs.getD xn 0 = (c : Int)) (hc : c < n) : (Gu ofs n ids k).set c ((cnt ofs (ids.take k) c : Int) + 1) = Gu ofs n ids (k + 1) := by
  have hsn : ∀ i, cnt ofs (ids.take (k + 1)) i = cnt ofs (ids.take k) i + if c = i then 1 else 0 := by
    intro i
    rw [take_snoc2 hk, cnt_snoc, hx, Int.toNat_natCast, hof]
    by_cases e : c = i
    · subst e; simp
    · rw [if_neg (by omega), if_neg e]
  apply List.ext_getElem
  · simp [Gu]
  · intro i h1 h2
    rw [List.getElem_set]
    by_cases e : c = i
    · subst e
      rw [if_pos rfl]
      simp only [Gu, List.getElem_map, List.getElem_range]
      rw [hsn, if_pos rfl]
      omega
    · rw [if_neg e]
      simp only [Gu, List.getElem_map, List.getElem_range]
      rw [hsn, if_neg e, Nat.add_zero]

/-- 'nodesIn' answers what it is asked. -/
theorem nodesIn_any (a0 : Option Addr) (n0 c0 : Nat) (ofs : List Int) (cl : Nat) (a2 : Option Addr) (n2 c2 : Nat) (xs : List Int) (w : World) (hl0 : ofs.length = n0) (hl2 : xs.length = n2) (hn0 : n0 ≤ 2000000) (hn2 : n2 ≤ 2000000) (hcl : cl ≤ 2000000) (hr0 : Rd .i32 w a0 ofs) (hr2 : Rd .i64 w a2 xs)
    (hof : ∀ j, -2147483648 ≤ ofs.getD j 0 ∧ ofs.getD j 0 ≤ 2147483647) :
    Calls Try.prog 39 #[.slice a0 n0 c0, .int .i64 cl, .slice a2 n2 c2] w fun e w' => e = .returned (.bool (nodesB ofs cl xs)) ∧ w' = w := by
  have HL0 : Hid (ofs.length = n0) := hl0
  have HL2 : Hid (xs.length = n2) := hl2
  have HOF : Hid (∀ j, -2147483648 ≤ ofs.getD j 0 ∧ ofs.getD j 0 ≤ 2147483647) := hof
  clear hl0 hl2 hof
  go_enter Try.func39, Try.ntmps39
  go_wp2
  go_loop [7] (fun i => ∃ k : Nat, k ≤ n2 ∧ i = .int .i64 k ∧ nodesB ofs cl (xs.take k) = true) (fun i => n2 - (intOf i).toNat)
  case atStart => exact ⟨0, Nat.zero_le _, rfl, by simp [nodesB]⟩
  case round =>
    obtain ⟨k, hk, rfl, hall⟩ := hrel
    have HA : Hid (nodesB ofs cl (xs.take k) = true) := hall
    clear hall
    by_cases hlt : k < n2
    · have hk2 : k < xs.length := by rw [HL2.out]; exact hlt
      obtain ⟨b, off, rfl, hcell⟩ := hr2.at (by omega)
      have hc := hcell k hk2
      clear hr2 hcell
      obtain ⟨z, hz⟩ : ∃ z, z = xs.getD k 0 := ⟨_, rfl⟩
      rw [← hz] at hc
      have HZ : Hid (z = xs.getD k 0) := hz
      clear hz hk2
      by_cases h0 : z < 0
      · go_wp2
        go_ret
        refine ⟨?_, rfl⟩
        have : nodesB ofs cl xs = false := all_false (by rw [HL2.out]; exact hlt) (by rw [← HZ.out]; simp; omega)
        rw [this]; rfl
      · by_cases h1 : (n0 : Int) ≤ z
        · go_wp2
          go_ret
          refine ⟨?_, rfl⟩
          have : nodesB ofs cl xs = false := all_false (by rw [HL2.out]; exact hlt) (by rw [← HZ.out, HL0.out]; simp; omega)
          rw [this]; rfl
        · obtain ⟨zn, rfl⟩ := Int.eq_ofNat_of_zero_le (show 0 ≤ z by omega)
          have hzl : zn < ofs.length := by rw [HL0.out]; omega
          obtain ⟨b0, off0, rfl, hcell0⟩ := hr0.at (by omega)
          have hc0 := hcell0 zn hzl
          have hzb := HOF.out zn
          clear hr0 hcell0 hzl
          obtain ⟨y, hy⟩ : ∃ y, y = ofs.getD zn 0 := ⟨_, rfl⟩
          rw [← hy] at hc0 hzb
          have HY : Hid (y = ofs.getD zn 0) := hy
          clear hy
          obtain ⟨hy1, hy2⟩ := hzb
          by_cases h2 : y < 0
          · go_wp2
            go_ret
            refine ⟨?_, rfl⟩
            have : nodesB ofs cl xs = false := all_false (by rw [HL2.out]; exact hlt) (by rw [← HZ.out, Int.toNat_natCast, ← HY.out]; simp; omega)
            rw [this]; rfl
          · by_cases h3 : (cl : Int) ≤ y
            · go_wp2
              go_ret
              refine ⟨?_, rfl⟩
              have : nodesB ofs cl xs = false := all_false (by rw [HL2.out]; exact hlt) (by rw [← HZ.out, Int.toNat_natCast, ← HY.out]; simp; omega)
              rw [this]; rfl
            · go_wp2
              go_round
              case rel => exact ⟨k + 1, by omega, by go_num, all_take_step (by rw [HL2.out]; exact hlt) HA.out (by rw [← HZ.out, Int.toNat_natCast, ← HY.out, HL0.out]; simp; omega)⟩
              case measure => simp [intOf]; omega
    · obtain rfl : k = n2 := by omega
      go_wp2
      go_ret
      refine ⟨?_, rfl⟩
      have : nodesB ofs cl xs = true := by have := HA.out; rwa [← HL2.out, List.take_length] at this
      rw [this]; rfl

end Go.Proofs.Qxb6601940a
