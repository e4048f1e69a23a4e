/-
  OWN WORK: THE PLAIN LAW: the greedy match of a pattern of stars and byte sets answers as the table over suffixes does. No Go in sight.
-/
namespace Go.Proofs.Qxb6601532a.Pl

/-- A token: a star, or a set of bytes. -/
abbrev Tok := Option (UInt8 → Bool)

def anyS (f : List UInt8 → Bool) : List UInt8 → Bool
  | [] => f []
  | b :: bs => f (b :: bs) || anyS f bs

/-- Whether the tokens match the bytes. -/
def M : List Tok → List UInt8 → Bool
  | [] => fun bs => bs.isEmpty
  | none :: ts => anyS (M ts)
  | some p :: ts => fun bs => match bs with
    | [] => false
    | b :: bs => p b && M ts bs

theorem anyS_iff (f : List UInt8 → Bool) (bs : List UInt8) : anyS f bs = true ↔ ∃ k, k ≤ bs.length ∧ f (bs.drop k) = true := by
  induction bs with
  | nil =>
    constructor
    · intro h; exact ⟨0, Nat.zero_le _, h⟩
    · rintro ⟨k, hk, h⟩
      have : k = 0 := by simpa using hk
      subst this; exact h
  | cons b bs ih =>
    simp only [anyS, Bool.or_eq_true, ih]
    constructor
    · rintro (h | ⟨k, hk, h⟩)
      · exact ⟨0, Nat.zero_le _, h⟩
      · exact ⟨k + 1, by simp; omega, by simpa using h⟩
    · rintro ⟨k, hk, h⟩
      cases k with
      | zero => exact .inl h
      | succ k => exact .inr ⟨k, by simp at hk; omega, by simpa using h⟩

section
variable (ts : List Tok) (bs : List UInt8)

/-- The tokens from i on match the bytes from j on. -/
def R (i j : Nat) : Bool := M (ts.drop i) (bs.drop j)

theorem R_end (j : Nat) : R ts bs ts.length j = decide (bs.length ≤ j) := by
  unfold R
  rw [List.drop_length]
  simp only [M]
  by_cases h : bs.length ≤ j
  · rw [List.drop_of_length_le h]; simp [h]
  · have : bs.drop j ≠ [] := by
      intro e
      have := congrArg List.length e
      simp at this; omega
    rw [decide_eq_false h]
    cases hd : bs.drop j with
    | nil => exact absurd hd this
    | cons => rfl
theorem R_star {i : Nat} (hi : i < ts.length) (hs : ts[i] = none) (j : Nat) : R ts bs i j = true ↔ ∃ k, k ≤ bs.length - j ∧ R ts bs (i + 1) (j + k) = true := by
  unfold R
  rw [List.drop_eq_getElem_cons hi, hs]
  simp only [M]
  rw [anyS_iff]
  simp only [List.length_drop, List.drop_drop]
theorem R_some {i : Nat} {p : UInt8 → Bool} (hi : i < ts.length) (hs : ts[i] = some p) {j : Nat} (hj : j < bs.length) : R ts bs i j = (p bs[j] && R ts bs (i + 1) (j + 1)) := by
  unfold R
  rw [List.drop_eq_getElem_cons hi, hs, List.drop_eq_getElem_cons hj]
  rfl
theorem R_some_end {i : Nat} {p : UInt8 → Bool} (hi : i < ts.length) (hs : ts[i] = some p) {j : Nat} (hj : bs.length ≤ j) : R ts bs i j = false := by
  unfold R
  rw [List.drop_eq_getElem_cons hi, hs, List.drop_of_length_le hj]
  rfl
/-- The step of the table at a star. -/
theorem R_star_step {i : Nat} (hi : i < ts.length) (hs : ts[i] = none) {j : Nat} (hj : j < bs.length) : R ts bs i j = (R ts bs (i + 1) j || R ts bs i (j + 1)) := by
  unfold R
  rw [List.drop_eq_getElem_cons hi, hs, List.drop_eq_getElem_cons hj]
  rfl
theorem R_star_end {i : Nat} (hi : i < ts.length) (hs : ts[i] = none) {j : Nat} (hj : bs.length ≤ j) : R ts bs i j = R ts bs (i + 1) j := by
  unfold R
  rw [List.drop_eq_getElem_cons hi, hs, List.drop_of_length_le hj]
  rfl

/-- A run of n sets from token i on, each with its byte from j on. -/
def Run (i j n : Nat) : Prop := ∀ x, x < n → ∃ p, ts[i + x]? = some (some p) ∧ ∃ b, bs[j + x]? = some b ∧ p b = true

theorem run_eq {i j : Nat} : ∀ n, Run ts bs i j n → R ts bs i j = R ts bs (i + n) (j + n) := by
  intro n
  induction n with
  | zero => intro _; rfl
  | succ n ih =>
    intro h
    rw [ih (fun x hx => h x (by omega))]
    obtain ⟨p, hp, b, hb, hpb⟩ := h n (by omega)
    obtain ⟨h1, h2⟩ := List.getElem?_eq_some_iff.1 hp
    obtain ⟨h3, h4⟩ := List.getElem?_eq_some_iff.1 hb
    rw [R_some ts bs h1 h2 h3, h4, hpb, Bool.true_and]
    rfl

/-- Sets alone eat a byte each. -/
theorem sets_eat {i : Nat} : ∀ n (j : Nat), (∀ x, x < n → ∃ p, ts[i + x]? = some (some p)) → R ts bs i j = true → (n = 0 ∨ j + n ≤ bs.length) ∧ R ts bs (i + n) (j + n) = true := by
  intro n
  induction n with
  | zero => intro j _ h; exact ⟨.inl rfl, h⟩
  | succ n ih =>
    intro j hp h
    obtain ⟨h1, h2⟩ := ih j (fun x hx => hp x (by omega)) h
    obtain ⟨p, hp⟩ := hp n (by omega)
    obtain ⟨h3, h4⟩ := List.getElem?_eq_some_iff.1 hp
    by_cases hj : j + n < bs.length
    · rw [R_some ts bs h3 h4 hj] at h2
      have := (Bool.and_eq_true _ _ ▸ h2).2
      exact ⟨.inr (by omega), this⟩
    · rw [R_some_end ts bs h3 h4 (by omega)] at h2
      cases h2


/-- What holds at each round of the greedy match: the token to match next, the byte that it is to match, and, once a star has been passed, the last one with where the bytes that it matches end. -/
def Inv (nx j : Nat) (st : Option (Nat × Nat)) : Prop :=
  nx ≤ ts.length ∧ j ≤ bs.length ∧
  (st = none → R ts bs 0 0 = R ts bs nx j) ∧
  ∀ s e, st = some (s, e) → s < nx ∧ e ≤ j ∧ j = e + (nx - (s + 1)) ∧ ts[s]? = some none ∧ Run ts bs (s + 1) e (nx - (s + 1)) ∧ R ts bs 0 0 = R ts bs s e

theorem inv_start : Inv ts bs 0 0 none := ⟨Nat.zero_le _, Nat.zero_le _, fun _ => rfl, fun s e h => (by cases h)⟩

/-- The state's own answer. -/
theorem inv_here {nx j s e : Nat} (h : Inv ts bs nx j (some (s, e))) : R ts bs (s + 1) e = R ts bs nx j := by
  obtain ⟨_, _, _, h4⟩ := h
  obtain ⟨h1, h2, h3, _, hr, _⟩ := h4 s e rfl
  rw [run_eq ts bs _ hr]
  congr 1 <;> omega

theorem inv_star {nx j : Nat} {st : Option (Nat × Nat)} (h : Inv ts bs nx j st) (hs : ts[nx]? = some none) : Inv ts bs (nx + 1) j (some (nx, j)) := by
  obtain ⟨hlt, hn⟩ := List.getElem?_eq_some_iff.1 hs
  have hinv := h
  obtain ⟨h1, h2, h3, h4⟩ := h
  refine ⟨by omega, h2, fun e => (by cases e), ?_⟩
  intro s e he
  simp only [Option.some.injEq, Prod.mk.injEq] at he
  obtain ⟨rfl, rfl⟩ := he
  refine ⟨by omega, Nat.le_refl _, by omega, hs, fun x hx => by omega, ?_⟩
  cases st with
  | none => exact h3 rfl
  | some se =>
    obtain ⟨s, e⟩ := se
    obtain ⟨q1, q2, q3, q4, q5, q6⟩ := h4 s e rfl
    rw [q6]
    obtain ⟨hslt, hsn⟩ := List.getElem?_eq_some_iff.1 q4
    rw [Bool.eq_iff_iff]
    constructor
    · intro hR
      obtain ⟨k, hk, hR⟩ := (R_star ts bs hslt hsn e).1 hR
      have hsets : ∀ x, x < nx - (s + 1) → ∃ p, ts[s + 1 + x]? = some (some p) := fun x hx => by obtain ⟨p, hp, _⟩ := q5 x hx; exact ⟨p, hp⟩
      obtain ⟨hle, hR⟩ := sets_eat ts bs (nx - (s + 1)) (e + k) hsets hR
      rw [show s + 1 + (nx - (s + 1)) = nx from by omega, show e + k + (nx - (s + 1)) = j + k from by omega] at hR
      obtain ⟨k2, hk2, hR⟩ := (R_star ts bs hlt hn (j + k)).1 hR
      refine (R_star ts bs hlt hn j).2 ⟨k + k2, ?_, by rw [← Nat.add_assoc]; exact hR⟩
      rcases hle with h0 | hle
      · omega
      · omega
    · intro hR
      refine (R_star ts bs hslt hsn e).2 ⟨0, Nat.zero_le _, ?_⟩
      show R ts bs (s + 1) e = true
      rw [inv_here ts bs hinv]
      exact hR

theorem inv_match {nx j : Nat} {st : Option (Nat × Nat)} {p : UInt8 → Bool} {b : UInt8} (h : Inv ts bs nx j st) (hs : ts[nx]? = some (some p)) (hb : bs[j]? = some b) (hp : p b = true) : Inv ts bs (nx + 1) (j + 1) st := by
  obtain ⟨hlt, hn⟩ := List.getElem?_eq_some_iff.1 hs
  obtain ⟨hjl, hjb⟩ := List.getElem?_eq_some_iff.1 hb
  obtain ⟨h1, h2, h3, h4⟩ := h
  refine ⟨by omega, by omega, ?_, ?_⟩
  · intro e
    rw [h3 e, R_some ts bs hlt hn hjl, hjb, hp, Bool.true_and]
  · intro s e he
    obtain ⟨q1, q2, q3, q4, q5, q6⟩ := h4 s e he
    refine ⟨by omega, by omega, by omega, q4, ?_, q6⟩
    intro x hx
    by_cases hx2 : x < nx - (s + 1)
    · exact q5 x hx2
    · have hx3 : x = nx - (s + 1) := by omega
      subst hx3
      refine ⟨p, by rw [show s + 1 + (nx - (s + 1)) = nx from by omega]; exact hs, b, by rw [← q3]; exact hb, hp⟩

/-- The token to match next does not match its byte. -/
def Fails (nx j : Nat) : Prop := nx = ts.length ∨ ∃ p b, ts[nx]? = some (some p) ∧ bs[j]? = some b ∧ p b = false

theorem fails_R {nx j : Nat} (hj : j < bs.length) (h : Fails ts bs nx j) : R ts bs nx j = false := by
  rcases h with rfl | ⟨p, b, hp, hb, hpb⟩
  · rw [R_end]; exact decide_eq_false (by omega)
  · obtain ⟨hlt, hn⟩ := List.getElem?_eq_some_iff.1 hp
    obtain ⟨hjl, hjb⟩ := List.getElem?_eq_some_iff.1 hb
    rw [R_some ts bs hlt hn hjl, hjb, hpb, Bool.false_and]

theorem inv_fail_none {nx j : Nat} (h : Inv ts bs nx j none) (hj : j < bs.length) (hf : Fails ts bs nx j) : R ts bs 0 0 = false := by
  rw [h.2.2.1 rfl]; exact fails_R ts bs hj hf

theorem inv_fail_some {nx j s e : Nat} (h : Inv ts bs nx j (some (s, e))) (hj : j < bs.length) (hf : Fails ts bs nx j) : Inv ts bs (s + 1) (e + 1) (some (s, e + 1)) := by
  have hhere := inv_here ts bs h
  rw [fails_R ts bs hj hf] at hhere
  obtain ⟨h1, h2, h3, h4⟩ := h
  obtain ⟨q1, q2, q3, q4, q5, q6⟩ := h4 s e rfl
  obtain ⟨hslt, hsn⟩ := List.getElem?_eq_some_iff.1 q4
  refine ⟨by omega, by omega, fun e => (by cases e), ?_⟩
  intro s2 e2 he
  simp only [Option.some.injEq, Prod.mk.injEq] at he
  obtain ⟨rfl, rfl⟩ := he
  refine ⟨by omega, Nat.le_refl _, by omega, q4, fun x hx => by omega, ?_⟩
  rw [q6, R_star_step ts bs hslt hsn (by omega), hhere, Bool.false_or]

theorem inv_end {nx : Nat} {st : Option (Nat × Nat)} (h : Inv ts bs nx bs.length st) (hf : nx = ts.length ∨ ∃ p, ts[nx]? = some (some p)) : R ts bs 0 0 = decide (nx = ts.length) := by
  have hinv := h
  obtain ⟨h1, h2, h3, h4⟩ := h
  have hR : R ts bs nx bs.length = decide (nx = ts.length) := by
    rcases hf with rfl | ⟨p, hp⟩
    · rw [R_end]; simp
    · obtain ⟨hlt, hn⟩ := List.getElem?_eq_some_iff.1 hp
      rw [R_some_end ts bs hlt hn (Nat.le_refl _)]
      exact (decide_eq_false (by omega)).symm
  cases st with
  | none => rw [h3 rfl, hR]
  | some se =>
    obtain ⟨s, e⟩ := se
    obtain ⟨q1, q2, q3, q4, q5, q6⟩ := h4 s e rfl
    obtain ⟨hslt, hsn⟩ := List.getElem?_eq_some_iff.1 q4
    have hhere := inv_here ts bs hinv
    rw [hR] at hhere
    rw [q6, ← hhere, Bool.eq_iff_iff]
    constructor
    · intro h
      obtain ⟨k, hk, h⟩ := (R_star ts bs hslt hsn e).1 h
      have hsets : ∀ x, x < nx - (s + 1) → ∃ p, ts[s + 1 + x]? = some (some p) := fun x hx => by obtain ⟨p, hp, _⟩ := q5 x hx; exact ⟨p, hp⟩
      obtain ⟨hle, h5⟩ := sets_eat ts bs (nx - (s + 1)) (e + k) hsets h
      have hk0 : k = 0 := by
        rcases hle with h0 | hle
        · omega
        · omega
      subst hk0
      exact h
    · intro h
      exact (R_star ts bs hslt hsn e).2 ⟨0, Nat.zero_le _, h⟩

/-- A number that each round lowers: by the last star passed (counted from 1; 0: none), where what it matches ends, and the token to match next. -/
def mu (T N s e n : Nat) : Nat := ((T + 1 - s) * (N + 2) + (N + 1 - e)) * (T + 2) + (T + 1 - n)
theorem mu_next {T N s e n : Nat} (h : n ≤ T) : mu T N s e (n + 1) < mu T N s e n := by unfold mu; omega
theorem mu_end {T N s e n n2 : Nat} (h : e ≤ N) (hn : n ≤ T) : mu T N s (e + 1) n2 < mu T N s e n := by
  unfold mu
  have h1 : N + 1 - e = (N + 1 - (e + 1)) + 1 := by omega
  rw [h1, ← Nat.add_assoc, Nat.add_mul _ 1]
  omega
theorem mu_star {T N s s2 e e2 n n2 : Nat} (h : s < s2) (hs : s2 ≤ T + 1) (hn : n ≤ T) : mu T N s2 e2 n2 < mu T N s e n := by
  unfold mu
  obtain ⟨d, hd⟩ : ∃ d, T + 1 - s = (T + 1 - s2) + 1 + d := ⟨T + 1 - s - (T + 1 - s2) - 1, by omega⟩
  have h1 : (T + 1 - s2) * (N + 2) + (N + 1 - e2) + 1 ≤ (T + 1 - s) * (N + 2) := by
    rw [hd, Nat.add_mul, Nat.add_mul]
    have := Nat.zero_le (d * (N + 2))
    omega
  have h2 := Nat.mul_le_mul_right (T + 2) h1
  rw [Nat.add_mul _ 1] at h2
  have h3 : (T + 1 - s) * (N + 2) * (T + 2) ≤ ((T + 1 - s) * (N + 2) + (N + 1 - e)) * (T + 2) := Nat.mul_le_mul_right _ (Nat.le_add_right _ _)
  omega
end
end Go.Proofs.Qxb6601532a.Pl
