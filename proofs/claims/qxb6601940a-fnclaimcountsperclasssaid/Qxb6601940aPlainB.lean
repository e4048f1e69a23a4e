import Derived.Test.Qxb6601940aPlain
namespace Go.Proofs.Qxb6601940a.Pl

theorem take_snoc {ks : List Int} {k : Nat} (h : k < ks.length) : ks.take (k + 1) = ks.take k ++ [ks.getD k 0] := by
  rw [List.take_succ_eq_append_getElem h]; simp [List.getD, h]

/-- What the tally of the numbers holds behind k keys. -/
def T (ks : List Int) (k : Nat) : List Int := (D ks).map fun v => ((ks.take k).count v : Int)
theorem T_zero (ks : List Int) : T ks 0 = List.replicate (D ks).length 0 := by
  unfold T
  apply List.ext_getElem <;> simp
theorem T_full (ks : List Int) : T ks ks.length = C ks := by simp [T, C]
theorem T_length (ks : List Int) (k : Nat) : (T ks k).length = (D ks).length := by simp [T]
theorem getD_mem {ks : List Int} {k : Nat} (h : k < ks.length) : ks.getD k 0 ∈ ks := by
  simp [List.getD, h]
theorem T_at (ks : List Int) (k : Nat) (h : k < ks.length) : (T ks k).getD ((D ks).idxOf (ks.getD k 0)) 0 = ((ks.take k).count (ks.getD k 0) : Int) := by
  have hl := idx_lt (getD_mem h)
  have := get_idx (getD_mem h)
  rw [T, List.getD, List.getElem?_map, List.getElem?_eq_getElem hl, this]; rfl
theorem T_step (ks : List Int) (k : Nat) (h : k < ks.length) : (T ks k).set ((D ks).idxOf (ks.getD k 0)) (((ks.take k).count (ks.getD k 0) : Int) + 1) = T ks (k + 1) := by
  apply List.ext_getElem
  · simp [T]
  · intro i h1 h2
    have hi : i < (D ks).length := by simpa [T] using h2
    rw [List.getElem_set]
    simp only [T, List.getElem_map]
    have hc : ∀ x : Int, (ks.take (k + 1)).count x = (ks.take k).count x + if ks.getD k 0 == x then 1 else 0 := fun x => by rw [take_snoc h, List.count_append, List.count_singleton]
    rw [hc]
    by_cases e : (D ks).idxOf (ks.getD k 0) = i
    · rw [if_pos e]
      have e2 : (D ks)[i] = ks.getD k 0 := by subst e; exact get_idx (getD_mem h)
      rw [e2]; simp
    · rw [if_neg e]
      have hne : ks.getD k 0 ≠ (D ks)[i] := by
        intro e2
        apply e
        rw [e2]
        exact (nodup_D ks).idxOf_getElem i hi
      rw [if_neg (by simpa using hne)]; rfl

/-- The number of the k-th key. -/
theorem Wk_at (ks : List Int) (k : Nat) (h : k < ks.length) : (Wk ks).getD k 0 = ((D ks).idxOf (ks.getD k 0) : Int) := by
  simp [Wk, List.getD, h]
theorem D_at (ks : List Int) (k : Nat) (h : k < ks.length) : (D ks).getD ((D ks).idxOf (ks.getD k 0)) 0 = ks.getD k 0 := by
  have hl := idx_lt (getD_mem h)
  have := get_idx (getD_mem h)
  rw [List.getD, List.getElem?_eq_getElem hl, this]; rfl
theorem F_at (ks : List Int) (k : Nat) (h : k < ks.length) : (F ks).getD ((D ks).idxOf (ks.getD k 0)) 0 = (ks.idxOf (ks.getD k 0) : Int) := by
  have hl := idx_lt (getD_mem h)
  have := get_idx (getD_mem h)
  rw [F, List.getD, List.getElem?_map, List.getElem?_eq_getElem hl, this]; rfl
theorem idxOf_le {ks : List Int} {k : Nat} (h : k < ks.length) : ks.idxOf (ks.getD k 0) ≤ k := by
  have e1 : ks.getD k 0 ∈ ks.take (k + 1) := by rw [take_snoc h]; simp
  have h2 := List.idxOf_lt_length_iff.2 e1
  have h3 : ks.idxOf (ks.getD k 0) = (ks.take (k + 1)).idxOf (ks.getD k 0) := by
    calc ks.idxOf (ks.getD k 0) = (ks.take (k + 1) ++ ks.drop (k + 1)).idxOf (ks.getD k 0) := by rw [List.take_append_drop]
      _ = _ := by rw [List.idxOf_append, if_pos e1]
  rw [h3]
  rw [List.length_take] at h2
  omega

/-- The first places, by number. -/
theorem F_get (ks : List Int) (m : Nat) (h : m < (D ks).length) : (F ks).getD m 0 = (ks.idxOf ((D ks).getD m 0) : Int) := by
  simp [F, List.getD, h]
theorem D_mem (ks : List Int) (m : Nat) (h : m < (D ks).length) : (D ks).getD m 0 ∈ ks := by
  rw [← mem_D]; simp [List.getD, h]
theorem first_lt (ks : List Int) (m : Nat) (h : m < (D ks).length) : ks.idxOf ((D ks).getD m 0) < ks.length := List.idxOf_lt_length_iff.2 (D_mem ks m h)
theorem first_key (ks : List Int) (m : Nat) (h : m < (D ks).length) : ks.getD (ks.idxOf ((D ks).getD m 0)) 0 = (D ks).getD m 0 := by
  have hl := first_lt ks m h
  rw [List.getD, List.getElem?_eq_getElem hl, List.getElem_idxOf]; rfl
theorem first_number (ks : List Int) (m : Nat) (h : m < (D ks).length) : (Wk ks).getD (ks.idxOf ((D ks).getD m 0)) 0 = (m : Int) := by
  rw [Wk_at ks _ (first_lt ks m h), first_key ks m h]
  have : (D ks).getD m 0 = (D ks)[m] := by simp [List.getD, h]
  rw [this, (nodup_D ks).idxOf_getElem m h]
theorem C_get (ks : List Int) (m : Nat) : (C ks).getD m 0 = (T ks ks.length).getD m 0 := by rw [T_full]

theorem F_sorted_to (ks : List Int) : ∀ k, k ≤ ks.length → (F (ks.take k)).Pairwise (· < ·) ∧ ∀ x ∈ F (ks.take k), x < (k : Int) := by
  intro k
  induction k with
  | zero => intro _; simp [F, D]
  | succ k ih =>
    intro hk
    obtain ⟨h1, h2⟩ := ih (by omega)
    rw [take_snoc (by omega)]
    have hl : (ks.take k).length = k := by simp; omega
    by_cases hm : ks.getD k 0 ∈ ks.take k
    · rw [F_old hm]
      exact ⟨h1, fun x hx => by have := h2 x hx; omega⟩
    · rw [F_new hm, hl]
      refine ⟨List.pairwise_append.2 ⟨h1, by simp, fun a ha b hb => ?_⟩, fun x hx => ?_⟩
      · simp at hb; subst hb; exact h2 a ha
      · rcases List.mem_append.1 hx with hx | hx
        · have := h2 x hx; omega
        · simp at hx; omega
theorem F_lt (ks : List Int) (m : Nat) (h : m + 1 < (D ks).length) : ks.idxOf ((D ks).getD m 0) < ks.idxOf ((D ks).getD (m + 1) 0) := by
  have hs := (F_sorted_to ks ks.length (Nat.le_refl _)).1
  rw [List.take_length] at hs
  have hl : (F ks).length = (D ks).length := by simp [F]
  have := List.pairwise_iff_getElem.1 hs m (m + 1) (by omega) (by omega) (by omega)
  have e1 := F_get ks m (by omega)
  have e2 := F_get ks (m + 1) h
  simp only [List.getD, List.getElem?_eq_getElem (show m < (F ks).length by omega), List.getElem?_eq_getElem (show m + 1 < (F ks).length by omega), Option.getD_some] at e1 e2
  rw [e1, e2] at this
  simp only [List.getD]
  omega

/-- Which values have been marked behind m numbers. -/
def M (V : Nat) (ks : List Int) (m : Nat) : List Bool := (List.range V).map fun (u : Nat) => decide ((u : Int) ∈ (D ks).take m)
theorem M_zero (V : Nat) (ks : List Int) : M V ks 0 = List.replicate V false := by
  unfold M
  apply List.ext_getElem <;> simp
theorem M_length (V : Nat) (ks : List Int) (m : Nat) : (M V ks m).length = V := by simp [M]
theorem M_fresh (V : Nat) (ks : List Int) (m u : Nat) (h : m < (D ks).length) (hu : (D ks).getD m 0 = (u : Int)) (hV : u < V) : (M V ks m).getD u false = false := by
  have hu' : (D ks)[m] = (u : Int) := by simpa [List.getD, h] using hu
  have hn : (u : Int) ∉ (D ks).take m := by
    intro hm
    obtain ⟨i, hi, he⟩ := List.getElem_of_mem hm
    have hi2 : i < m := by simp at hi; omega
    have := (nodup_D ks).idxOf_getElem i (by omega)
    have h3 := (nodup_D ks).idxOf_getElem m h
    rw [List.getElem_take] at he
    rw [he] at this
    rw [hu'] at h3
    omega
  simp [M, List.getD, hV, hn]
theorem M_step (V : Nat) (ks : List Int) (m u : Nat) (h : m < (D ks).length) (hu : (D ks).getD m 0 = (u : Int)) : (M V ks m).set u true = M V ks (m + 1) := by
  have hu' : (D ks)[m] = (u : Int) := by simpa [List.getD, h] using hu
  apply List.ext_getElem
  · simp [M]
  · intro i h1 h2
    rw [List.getElem_set]
    simp only [M, List.getElem_map, List.getElem_range]
    rw [List.take_succ_eq_append_getElem h, hu']
    by_cases e : u = i
    · subst e; simp
    · rw [if_neg e]
      have hne : ¬ (i : Int) = (u : Int) := by omega
      simp [hne]

end Go.Proofs.Qxb6601940a.Pl
