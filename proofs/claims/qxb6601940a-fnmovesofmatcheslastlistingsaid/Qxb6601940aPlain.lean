namespace Go.Proofs.Qxb6601940a.Pl

/-- The different values of a list, in the order in which they first come. -/
def D (ks : List Int) : List Int := ks.foldl (fun acc v => if v ∈ acc then acc else acc ++ [v]) []
/-- The number of each key. -/
def Wk (ks : List Int) : List Int := ks.map fun v => ((D ks).idxOf v : Int)
/-- The first place of each value. -/
def F (ks : List Int) : List Int := (D ks).map fun v => (ks.idxOf v : Int)
/-- How often each value comes. -/
def C (ks : List Int) : List Int := (D ks).map fun v => (ks.count v : Int)
/-- What 'seen' holds, over L places, once the keys ks have been numbered. -/
def S (L : Nat) (ks : List Int) : List Int := (List.range L).map fun (u : Nat) => if (u : Int) ∈ D ks then ((D ks).idxOf (u : Int) : Int) + 1 else 0

theorem D_nil : D [] = [] := rfl
theorem D_snoc (ks : List Int) (v : Int) : D (ks ++ [v]) = if v ∈ D ks then D ks else D ks ++ [v] := by
  unfold D; rw [List.foldl_append]; rfl
theorem mem_fold (ks : List Int) : ∀ (acc : List Int) (v : Int), v ∈ ks.foldl (fun acc v => if v ∈ acc then acc else acc ++ [v]) acc ↔ v ∈ acc ∨ v ∈ ks := by
  induction ks with
  | nil => intro acc v; simp
  | cons x xs ih =>
    intro acc v
    rw [List.foldl_cons, ih]
    by_cases h : x ∈ acc
    · rw [if_pos h]
      constructor
      · rintro (h1 | h1)
        · exact .inl h1
        · exact .inr (List.mem_cons_of_mem _ h1)
      · rintro (h1 | h1)
        · exact .inl h1
        · rcases List.mem_cons.1 h1 with h2 | h2
          · subst h2; exact .inl h
          · exact .inr h2
    · rw [if_neg h]
      simp only [List.mem_append, List.mem_cons, List.not_mem_nil, or_false, or_assoc]
theorem mem_D (ks : List Int) (v : Int) : v ∈ D ks ↔ v ∈ ks := by
  unfold D; rw [mem_fold]; simp
theorem nodup_fold (ks : List Int) : ∀ (acc : List Int), acc.Nodup → (ks.foldl (fun acc v => if v ∈ acc then acc else acc ++ [v]) acc).Nodup := by
  induction ks with
  | nil => intro acc h; simpa using h
  | cons x xs ih =>
    intro acc h
    rw [List.foldl_cons]
    refine ih _ ?_
    by_cases hx : x ∈ acc
    · rw [if_pos hx]; exact h
    · rw [if_neg hx, List.nodup_append]
      exact ⟨h, by simp, fun a ha b hb => by simp at hb; subst hb; intro e; subst e; exact hx ha⟩
theorem nodup_D (ks : List Int) : (D ks).Nodup := nodup_fold ks [] (by simp)
theorem length_fold (ks : List Int) : ∀ acc : List Int, (ks.foldl (fun acc v => if v ∈ acc then acc else acc ++ [v]) acc).length ≤ acc.length + ks.length := by
  induction ks with
  | nil => intro acc; simp
  | cons x xs ih =>
    intro acc
    rw [List.foldl_cons]
    refine Nat.le_trans (ih _) ?_
    split <;> simp <;> omega
theorem length_D (ks : List Int) : (D ks).length ≤ ks.length := by
  have := length_fold ks []; simpa [D] using this

theorem D_old {ks : List Int} {v : Int} (h : v ∈ ks) : D (ks ++ [v]) = D ks := by rw [D_snoc, if_pos ((mem_D _ _).2 h)]
theorem D_new {ks : List Int} {v : Int} (h : v ∉ ks) : D (ks ++ [v]) = D ks ++ [v] := by rw [D_snoc, if_neg (fun e => h ((mem_D _ _).1 e))]

/-- A value that is there keeps its number. -/
theorem idx_snoc {ks : List Int} {u : Int} (v : Int) (h : u ∈ ks) : (D (ks ++ [v])).idxOf u = (D ks).idxOf u := by
  by_cases hv : v ∈ ks
  · rw [D_old hv]
  · rw [D_new hv, List.idxOf_append, if_pos ((mem_D _ _).2 h)]
theorem idx_new {ks : List Int} {v : Int} (h : v ∉ ks) : (D (ks ++ [v])).idxOf v = (D ks).length := by
  rw [D_new h, List.idxOf_append, if_neg (fun e => h ((mem_D _ _).1 e))]
  simp
theorem length_new {ks : List Int} {v : Int} (h : v ∉ ks) : (D (ks ++ [v])).length = (D ks).length + 1 := by rw [D_new h]; simp
theorem idx_lt {ks : List Int} {v : Int} (h : v ∈ ks) : (D ks).idxOf v < (D ks).length := List.idxOf_lt_length_iff.2 ((mem_D _ _).2 h)
theorem get_idx {ks : List Int} {v : Int} (h : v ∈ ks) : (D ks)[(D ks).idxOf v]'(idx_lt h) = v := List.getElem_idxOf _

theorem Wk_snoc (ks : List Int) (v : Int) : Wk (ks ++ [v]) = Wk ks ++ [((D (ks ++ [v])).idxOf v : Int)] := by
  unfold Wk
  rw [List.map_append]
  congr 1
  exact List.map_congr_left fun u hu => by rw [idx_snoc v hu]

theorem F_old {ks : List Int} {v : Int} (h : v ∈ ks) : F (ks ++ [v]) = F ks := by
  unfold F
  rw [D_old h]
  refine List.map_congr_left fun u hu => ?_
  rw [List.idxOf_append, if_pos ((mem_D _ _).1 hu)]
theorem F_new {ks : List Int} {v : Int} (h : v ∉ ks) : F (ks ++ [v]) = F ks ++ [(ks.length : Int)] := by
  unfold F
  rw [D_new h, List.map_append]
  congr 1
  · refine List.map_congr_left fun u hu => ?_
    rw [List.idxOf_append, if_pos ((mem_D _ _).1 hu)]
  · simp [List.idxOf_append, h]

theorem C_new {ks : List Int} {v : Int} (h : v ∉ ks) : C (ks ++ [v]) = (C ks ++ [0]).set (D ks).length 1 := by
  have e : (C ks).length = (D ks).length := by simp [C]
  unfold C at e ⊢
  rw [D_new h, List.map_append, List.set_append_right _ _ (by omega), e]
  simp only [Nat.sub_self, List.map_cons, List.map_nil, List.set_cons_zero]
  congr 1
  · refine List.map_congr_left fun u hu => ?_
    have hne : v ≠ u := fun e => h (e ▸ (mem_D _ _).1 hu)
    rw [List.count_append, List.count_singleton]
    simp [hne]
  · have : ks.count v = 0 := List.count_eq_zero.2 h
    simp [List.count_append, this]
theorem C_old {ks : List Int} {v : Int} (h : v ∈ ks) : C (ks ++ [v]) = (C ks).set ((D ks).idxOf v) ((ks.count v : Int) + 1) := by
  unfold C
  rw [D_old h]
  apply List.ext_getElem
  · simp
  · intro i h1 h2
    simp only [List.getElem_map, List.getElem_set, List.count_append, List.count_singleton]
    have hi : i < (D ks).length := by simpa using h1
    by_cases e : (D ks).idxOf v = i
    · subst e
      rw [if_pos rfl, get_idx h]; simp
    · rw [if_neg e]
      have hne : v ≠ (D ks)[i] := by
        intro e2
        apply e
        rw [e2]
        exact (nodup_D ks).idxOf_getElem i hi
      simp [hne]
theorem C_at {ks : List Int} {v : Int} (h : v ∈ ks) : (C ks).getD ((D ks).idxOf v) 0 = (ks.count v : Int) := by
  have hl := idx_lt h
  simp only [C, List.getD, List.getElem?_map]
  rw [List.getElem?_eq_getElem hl, get_idx h]; rfl

theorem S_length (L : Nat) (ks : List Int) : (S L ks).length = L := by simp [S]
theorem S_nil (L : Nat) : S L [] = List.replicate L 0 := by
  unfold S
  rw [D_nil]
  apply List.ext_getElem <;> simp
theorem S_at (L : Nat) (ks : List Int) (u : Nat) (hu : u < L) : (S L ks).getD u 0 = if (u : Int) ∈ ks then ((D ks).idxOf (u : Int) : Int) + 1 else 0 := by
  simp [S, List.getD, List.getElem?_map, List.getElem?_range hu, mem_D]
theorem S_old (L : Nat) {ks : List Int} {v : Int} (h : v ∈ ks) : S L (ks ++ [v]) = S L ks := by unfold S; rw [D_old h]
theorem S_new (L : Nat) {ks : List Int} {u : Nat} (h : (u : Int) ∉ ks) : S L (ks ++ [(u : Int)]) = (S L ks).set u (((D ks).length : Int) + 1) := by
  apply List.ext_getElem
  · simp [S]
  · intro i h1 h2
    have hi : i < L := by simpa [S] using h1
    simp only [S, List.getElem_map, List.getElem_range, List.getElem_set]
    by_cases e : u = i
    · subst e
      rw [if_pos rfl, if_pos ((mem_D _ _).2 (by simp)), idx_new h]
    · rw [if_neg e]
      have hne : ¬ (i : Int) = (u : Int) := by omega
      by_cases hm : (i : Int) ∈ ks
      · rw [if_pos ((mem_D _ _).2 (by simp [hm])), if_pos ((mem_D _ _).2 hm), idx_snoc _ hm]
      · rw [if_neg (fun e2 => by have := (mem_D _ _).1 e2; simp [hm, hne] at this), if_neg (fun e2 => hm ((mem_D _ _).1 e2))]

/-- What 'seen' holds while it is swept: the first j values are nought again. -/
def Z (L : Nat) (ks : List Int) (j : Nat) : List Int := (List.range L).map fun (u : Nat) => if (u : Int) ∈ (D ks).drop j then ((D ks).idxOf (u : Int) : Int) + 1 else 0
theorem Z_zero (L : Nat) (ks : List Int) : Z L ks 0 = S L ks := by simp [Z, S]
theorem Z_end (L : Nat) (ks : List Int) : Z L ks (D ks).length = List.replicate L 0 := by
  unfold Z
  apply List.ext_getElem <;> simp
theorem Z_length (L : Nat) (ks : List Int) (j : Nat) : (Z L ks j).length = L := by simp [Z]
theorem Z_step (L : Nat) (ks : List Int) (j : Nat) (hj : j < (D ks).length) (u : Nat) (hu : (D ks).getD j 0 = (u : Int)) : (Z L ks j).set u 0 = Z L ks (j + 1) := by
  have hu' : (D ks)[j] = (u : Int) := by simpa [List.getD, hj] using hu
  have hd : (D ks).drop j = (u : Int) :: (D ks).drop (j + 1) := by rw [List.drop_eq_getElem_cons hj, hu']
  have hn := (nodup_D ks).sublist (List.drop_sublist j _)
  rw [hd] at hn
  have hnm : (u : Int) ∉ (D ks).drop (j + 1) := (List.nodup_cons.1 hn).1
  apply List.ext_getElem
  · simp [Z]
  · intro i h1 h2
    rw [List.getElem_set]
    simp only [Z, List.getElem_map, List.getElem_range]
    by_cases e : u = i
    · subst e; rw [if_pos rfl, if_neg hnm]
    · rw [if_neg e, hd]
      have hne : ¬ (i : Int) = (u : Int) := by omega
      simp only [List.mem_cons, hne, false_or]

end Go.Proofs.Qxb6601940a.Pl
