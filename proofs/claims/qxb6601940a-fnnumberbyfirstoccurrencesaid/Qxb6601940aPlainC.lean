import Derived.Test.Qxb6601940aPlainB
namespace Go.Proofs.Qxb6601940a.Pl

theorem idxOf_first {ks : List Int} {x : Int} {j : Nat} (h : j < ks.idxOf x) : ks.getD j 0 ≠ x := by
  have hl : j < ks.length := Nat.lt_of_lt_of_le h List.idxOf_le_length
  intro e
  have := @idxOf_le ks j hl
  rw [e] at this
  omega
theorem idxOf_take {ks : List Int} {x : Int} {k : Nat} (h : x ∈ ks.take k) : ks.idxOf x < k := by
  have h2 := List.idxOf_lt_length_iff.2 h
  have h3 : ks.idxOf x = (ks.take k).idxOf x := by
    calc ks.idxOf x = (ks.take k ++ ks.drop k).idxOf x := by rw [List.take_append_drop]
      _ = _ := by rw [List.idxOf_append, if_pos h]
  rw [h3]
  rw [List.length_take] at h2
  omega
theorem mem_of_idxOf {ks : List Int} {x : Int} {k : Nat} (h : ks.idxOf x < k) (hl : k ≤ ks.length) : x ∈ ks.take k := by
  have h1 : ks.idxOf x < ks.length := by omega
  have h2 : ks[ks.idxOf x] = x := List.getElem_idxOf h1
  rw [← h2]
  rw [List.mem_take_iff_getElem]
  exact ⟨ks.idxOf x, by omega, rfl⟩
theorem getD_idxOf {ks : List Int} {x : Int} (h : x ∈ ks) : ks.getD (ks.idxOf x) 0 = x := by
  have h1 := List.idxOf_lt_length_iff.2 h
  rw [List.getD, List.getElem?_eq_getElem h1, List.getElem_idxOf]; rfl

/-- What 'want' holds behind k keys. -/
def Wp (ks : List Int) (k : Nat) : List Int := Wk (ks.take k) ++ List.replicate (ks.length - k) 0
theorem Wk_length (ks : List Int) : (Wk ks).length = ks.length := by simp [Wk]
theorem Wp_zero (ks : List Int) : Wp ks 0 = List.replicate ks.length 0 := by simp [Wp, Wk]
theorem Wp_full (ks : List Int) : Wp ks ks.length = Wk ks := by simp [Wp]
theorem Wp_length (ks : List Int) (k : Nat) (h : k ≤ ks.length) : (Wp ks k).length = ks.length := by simp [Wp, Wk]; omega
theorem Wp_set (ks : List Int) (k : Nat) (h : k < ks.length) (z : Int) (hz : z = ((D (ks.take k ++ [ks.getD k 0])).idxOf (ks.getD k 0) : Int)) : (Wp ks k).set k z = Wp ks (k + 1) := by
  have hl : (Wk (ks.take k)).length = k := by simp [Wk]; omega
  unfold Wp
  rw [List.set_append_right _ _ (by omega), hl, Nat.sub_self, take_snoc h, Wk_snoc, ← hz, List.append_assoc]
  congr 1
  rw [show ks.length - k = (ks.length - (k + 1)) + 1 from by omega, List.replicate_succ, List.set_cons_zero]
  rfl
theorem Wp_old (ks : List Int) (k : Nat) (h : k < ks.length) (hm : ks.getD k 0 ∈ ks.take k) : (Wp ks k).getD (ks.idxOf (ks.getD k 0)) 0 = ((D (ks.take k ++ [ks.getD k 0])).idxOf (ks.getD k 0) : Int) := by
  have hi := idxOf_take hm
  have hl : (Wk (ks.take k)).length = k := by simp [Wk]; omega
  rw [idx_snoc _ hm]
  unfold Wp
  rw [List.getD, List.getElem?_append_left (by omega)]
  have h2 := Wk_at (ks.take k) (ks.idxOf (ks.getD k 0)) (by rw [List.length_take]; omega)
  rw [List.getD] at h2
  rw [h2]
  congr 2
  have h3 : (ks.take k).getD (ks.idxOf (ks.getD k 0)) 0 = ks.getD (ks.idxOf (ks.getD k 0)) 0 := by
    rw [List.getD, List.getElem?_take_of_lt hi, ← List.getD]
  rw [h3, getD_idxOf (getD_mem h)]
theorem count_snoc (ks : List Int) (k : Nat) (h : k < ks.length) (x : Int) : (ks.take (k + 1)).count x = (ks.take k).count x + if ks.getD k 0 = x then 1 else 0 := by
  rw [take_snoc h, List.count_append, List.count_singleton]
  by_cases e : ks.getD k 0 = x
  · rw [if_pos e, if_pos (by simpa using e)]
  · rw [if_neg e, if_neg (by simpa using e)]
theorem C_at2 (ks : List Int) (m : Nat) (h : m < (D ks).length) : (C ks).getD m 0 = (ks.count ((D ks).getD m 0) : Int) := by
  simp [C, List.getD, h]

end Go.Proofs.Qxb6601940a.Pl
