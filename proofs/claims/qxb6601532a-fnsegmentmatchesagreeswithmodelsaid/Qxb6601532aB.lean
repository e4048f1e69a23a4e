import Derived.Test.Qxb6601532aA
namespace Go.Proofs.Qxb6601532a
open Go.RowKit
set_option linter.unusedVariables false

/-! ### Rows of bools -/
/-- A row of bools of the call's own. -/
def OwnB (w : World) (B : Nat) (v : Value) (n : Nat) (bs : List Bool) : Prop := w.ownsRow B 4 1 v n (bs.map Value.bool)
section
variable {w w' : World} {B : Nat} {v : Value} {n g c : Nat} {bs : List Bool}
theorem OwnB.len (h : OwnB w B v n bs) : bs.length = n := by have := h.1; simpa using this
theorem OwnB.cell (h : OwnB w B (.slice (some ⟨g, 0, none⟩) n c) n bs) {j : Nat} (hj : j < n) : w.cell? ⟨g, j, none⟩ = some (.bool (bs.getD j false)) := by
  rw [World.ownsRow.cellAt h j (by omega)]
  have hl := h.len
  rw [List.getElem?_map, List.getElem?_eq_getElem (by omega)]
  simp [List.getD, show j < bs.length by omega]
theorem OwnB.fr (h : OwnB w B (.slice (some ⟨g, 0, none⟩) n c) n bs) (j : Nat) : w.frozen? ⟨g, j, none⟩ = false := World.ownsRow.frozenAt h j
theorem OwnB.store (h : OwnB w B (.slice (some ⟨g, 0, none⟩) n c) n bs) (j : Nat) (z : Bool) :
    OwnB (w.setCell ⟨g, j, none⟩ (.bool z)) B (.slice (some ⟨g, 0, none⟩) n c) n (bs.set j z) ∧ Kept [some g] w (w.setCell ⟨g, j, none⟩ (.bool z)) := by
  have := World.ownsRow.stored h j (.bool z)
  rw [← List.map_set] at this
  exact ⟨this.1, Kept.ofGrown this.2⟩
theorem OwnB.kept {S : List (Option Nat)} (h : OwnB w B v n bs) (hk : Kept S w w') (hne : ∀ g, v.ownBlock = some g → some g ∉ S) : OwnB w' B v n bs := ownsKept h hk hne
theorem OwnB.kept0 (h : OwnB w B v n bs) (hk : Kept [] w w') : OwnB w' B v n bs := ownsKept h hk (by simp)
theorem OwnB.nil (w : World) (B : Nat) : OwnB w B (.slice none 0 0) 0 [] := World.ownsRow_nil w B 4 1
theorem OwnB.lt (h : OwnB w B v n bs) : ∀ g, v.ownBlock = some g → B ≤ g ∧ g < w.heap.size := World.ownsRow.lt h
theorem OwnB.shape (h : OwnB w B v n bs) : (v = .slice none 0 0 ∧ n = 0) ∨ ∃ g cap, v = .slice (some ⟨g, 0, none⟩) n cap ∧ B ≤ g ∧ g < w.heap.size ∧ n ≤ cap ∧ cap ≤ maxLen := by
  rcases h.2 with hn | ⟨g, cap, cur, rfl, hb, hgg, h1, h2, _⟩
  · exact .inl hn
  · exact .inr ⟨g, cap, rfl, hb, (Array.getElem?_eq_some_iff.1 hgg).1, h1, h2⟩
theorem OwnB.pos (h : OwnB w B v n bs) (hn : 0 < n) : ∃ g cap, v = .slice (some ⟨g, 0, none⟩) n cap ∧ B ≤ g ∧ g < w.heap.size ∧ n ≤ cap ∧ cap ≤ maxLen := by
  rcases h.shape with ⟨_, h0⟩ | h0
  · omega
  · exact h0
end
theorem ownB_made {w : World} {B : Nat} {v : Value} {n : Nat} (h : w.ownsRow B 4 1 v n (madeCells #[Value.bool false] n).toList) : OwnB w B v n (List.replicate n false) := by
  unfold OwnB
  rw [List.map_replicate]
  rw [toList_madeCells_one] at h
  exact h
theorem ownB_made2 {w : World} {B : Nat} {v : Value} {n : Nat} (h : w.ownsRow B 4 1 v n (madeCells (Value.bool false).cells (n * 1)).toList) : OwnB w B v n (List.replicate n false) := ownB_made (by rw [Nat.mul_one] at h; exact h)

/-- What is known of a slice of bools that is read. -/
def RdB (w : World) (a : Option Addr) (bs : List Bool) : Prop :=
  (a = none → bs = []) ∧ ∀ x, a = some x → ∀ i, i < bs.length → w.cell? (x.add i) = some (.bool (bs.getD i false))
theorem RdB.kept {w w' : World} {a : Option Addr} {bs : List Bool} (h : RdB w a bs) (hk : Kept [] w w') : RdB w' a bs :=
  ⟨h.1, fun x hx i hi => (hk.cell (by have := World.block_lt_of_cell? _ _ (h.2 x hx i hi); simpa [Addr.add] using this) (by simp)).trans (h.2 x hx i hi)⟩

def partB (xs : List Bool) (i : Nat) : List Bool := xs.take i ++ List.replicate (xs.length - i) false
theorem partB_zero (xs : List Bool) : partB xs 0 = List.replicate xs.length false := by simp [partB]
theorem partB_full (xs : List Bool) : partB xs xs.length = xs := by simp [partB]
theorem partB_step (xs : List Bool) (k : Nat) (h : k < xs.length) : (partB xs k).set k (xs.getD k false) = partB xs (k + 1) := by
  apply List.ext_getElem
  · simp [partB]; omega
  · intro i h1 h2
    have hi : i < xs.length := by simp [partB] at h2; omega
    rw [List.getElem_set]
    simp only [partB, List.getElem_append, List.length_take, List.getElem_take, List.getElem_replicate]
    by_cases e : k = i
    · subst e; rw [if_pos rfl, dif_pos (by omega)]; simp [h, List.getD]
    · rw [if_neg e]
      by_cases h3 : i < k
      · rw [dif_pos (by omega), dif_pos (by omega)]
      · rw [dif_neg (by omega), dif_neg (by omega)]

set_option maxHeartbeats 400000 in
theorem cloneB_nil (w : World) : Calls Try.prog 13 #[.slice none 0 0] w fun e w' => e = .returned (.slice none 0 0) ∧ w' = w := by
  have q22 : ∀ (w : World) (a : Option Addr) (n c n' c' : Nat), (binOp .eql 22 (.slice a n c) (.slice none n' c')).run Try.prog w = .ok (.bool a.isNone) w := fun w a n c n' c' => Lib.run_eql_slice_nil w _ _ a n c n' c' Try.underlying22
  go_enter Try.func13, Try.ntmps13
  go_wp2
  go_ret
  exact ⟨rfl, rfl⟩

set_option maxHeartbeats 400000 in
theorem cloneB_some (x : Addr) (n : Nat) (xs : List Bool) (c : Nat) (w : World) (B : Nat) (hl : xs.length = n) (hn : n ≤ 2000000) (hB : B ≤ w.heap.size)
    (hc : ∀ i, i < n → w.cell? (x.add i) = some (.bool (xs.getD i false))) :
    Calls Try.prog 13 #[.slice (some x) n c] w fun e w' => e = .returned (.slice (some ⟨w.heap.size, 0, none⟩) n n) ∧ OwnB w' B (.slice (some ⟨w.heap.size, 0, none⟩) n n) n xs ∧ Kept [] w w' := by
  obtain ⟨i0, hi, hz0, hz1, hz2⟩ := info_parts Try.info4
  have q22 : ∀ (w : World) (a : Option Addr) (n c n' c' : Nat), (binOp .eql 22 (.slice a n c) (.slice none n' c')).run Try.prog w = .ok (.bool a.isNone) w := fun w a n c n' c' => Lib.run_eql_slice_nil w _ _ a n c n' c' Try.underlying22
  obtain ⟨b, off, spot⟩ := x
  have hs : 0 < n → spot = none := fun h => by simpa [Addr.add] using World.cell?_spot (hc 0 h)
  have hlt : 0 < n → b < w.heap.size := fun h => by simpa [Addr.add] using World.block_lt_of_cell? _ _ (hc 0 h)
  have HL : Hid (xs.length = n) := hl
  clear hl
  go_enter Try.func13, Try.ntmps13
  go_wp2_with (first | (at_make; refine wpList_make_full _ rfl _ _ 22 rfl B 4 i0 (.bool false) 1 Try.underlying22 hi hz0 hz1 _ _ _ _ n rfl rfl rfl rfl ?b1 ?b2 ?b3 ?_))
  case b1 => rw [hz2]; omega
  case b2 => unfold maxLen; omega
  case b3 => exact hB
  intro w1 hown1 hgrow1
  have hA : OwnB w1 B (.slice (some ⟨w.heap.size, 0, none⟩) n n) n (partB xs 0) := by
    rw [partB_zero, HL.out]; exact ownB_made hown1
  have hK := Kept.ofNew hgrow1
  clear hown1 hgrow1
  go_wp2
  go_loopw [4] (fun i wr => ∃ k : Nat, k ≤ n ∧ i = .int .i64 k ∧ OwnB wr B (.slice (some ⟨w.heap.size, 0, none⟩) n n) n (partB xs k) ∧ Kept [] w wr) (fun i _ => n - (intOf i).toNat)
  case atStart => exact ⟨0, Nat.zero_le _, rfl, hA, hK⟩
  case round =>
    obtain ⟨k, hk, rfl, hown, hkept⟩ := hrel
    clear hA hK
    by_cases hlt2 : k < n
    · obtain rfl := hs (by omega)
      have hb := hlt (by omega)
      have hcx : wr.cell? ⟨b, off + k, none⟩ = some (.bool (xs.getD k false)) := (hkept.cell (a := ⟨b, off + k, none⟩) hb (by simp)).trans (by have := hc k hlt2; rwa [WideShapes.add_plain] at this)
      have hfr : wr.frozen? ⟨w.heap.size, k, none⟩ = false := hown.fr k
      have hcc : wr.cell? ⟨w.heap.size, k, none⟩ = some (.bool ((partB xs k).getD k false)) := hown.cell hlt2
      have R := hown.store k (xs.getD k false)
      rw [partB_step _ _ (by rw [HL.out]; exact hlt2)] at R
      have R2 : Kept [] w (wr.setCell ⟨w.heap.size, k, none⟩ (.bool (xs.getD k false))) := hkept.trans R.2 (by intro j hj hj2; simp at hj; omega)
      have HR : Hid (_ ∧ _) := ⟨R.1, R2⟩
      clear R R2
      go_wp2
      go_roundw
      case rel => exact ⟨k + 1, by omega, by go_num, HR.out.1, HR.out.2⟩
      case measure => simp [intOf]; omega
    · obtain rfl : k = n := by omega
      go_wp2
      go_ret
      rw [show k = xs.length from HL.out.symm, partB_full] at hown
      rw [HL.out] at hown
      exact ⟨rfl, hown, hkept⟩

theorem cloneB_any (a : Option Addr) (n c : Nat) (xs : List Bool) (w : World) (B : Nat) (hl : xs.length = n) (hn : n ≤ 2000000) (hB : B ≤ w.heap.size) (hr : RdB w a xs) (h0 : a = none → c = 0) :
    Calls Try.prog 13 #[.slice a n c] w fun e w' => ∃ a' c', e = .returned (.slice a' n c') ∧ OwnB w' B (.slice a' n c') n xs ∧ Kept [] w w' ∧ (∀ g, (Value.slice a' n c').ownBlock = some g → w.heap.size ≤ g) ∧ (a' = none ↔ a = none) := by
  cases a with
  | none =>
    obtain rfl := h0 rfl
    obtain rfl := hr.1 rfl
    obtain rfl : n = 0 := by simpa using hl.symm
    refine (cloneB_nil w).mono ?_
    rintro e w' ⟨rfl, rfl⟩
    exact ⟨none, 0, rfl, OwnB.nil _ _, Kept.refl _ _, by simp [Value.ownBlock], Iff.rfl⟩
  | some x =>
    refine (cloneB_some x n xs c w B hl hn hB (fun i hi => hr.2 x rfl i (by omega))).mono ?_
    rintro e w' ⟨rfl, h1, h2⟩
    refine ⟨_, _, rfl, h1, h2, ?_, by simp⟩
    intro g hg
    simp [Value.ownBlock] at hg
    omega

/-! ### Rows of sets of 256 bools, told by one function of the cell's place -/
def flat (n : Nat) (S : Nat → Bool) : List Value := (List.range (n * 256)).map fun k => Value.bool (S k)
theorem flat_length (n : Nat) (S : Nat → Bool) : (flat n S).length = n * 256 := by simp [flat]
theorem flat_at (n : Nat) (S : Nat → Bool) (k : Nat) (h : k < n * 256) : (flat n S)[k]? = some (.bool (S k)) := by simp [flat, h]
def OwnS (w : World) (B : Nat) (v : Value) (n : Nat) (S : Nat → Bool) : Prop := w.ownsRow B 31 256 v n (flat n S)
/-- The i-th set's cells. -/
def oneSet (S : Nat → Bool) (i : Nat) : List Value := (List.range 256).map fun b => Value.bool (S (i * 256 + b))
theorem oneSet_length (S : Nat → Bool) (i : Nat) : (oneSet S i).length = 256 := by simp [oneSet]
theorem oneSet_at (S : Nat → Bool) (i b : Nat) (h : b < 256) : (oneSet S i)[b]? = some (.bool (S (i * 256 + b))) := by simp [oneSet, h]
theorem oneSet_one (S : Nat → Bool) (i : Nat) : ∀ v ∈ oneSet S i, v.oneCell' = true := by
  intro v hv
  obtain ⟨b, _, rfl⟩ := List.mem_map.1 hv
  rfl

def RdS (w : World) (a : Option Addr) (n : Nat) (S : Nat → Bool) : Prop :=
  (a = none → n = 0) ∧ ∀ x, a = some x → ∀ k, k < n * 256 → w.cell? (x.add k) = some (.bool (S k))
theorem RdS.kept {w w' : World} {a : Option Addr} {n : Nat} {S : Nat → Bool} (h : RdS w a n S) (hk : Kept [] w w') : RdS w' a n S :=
  ⟨h.1, fun x hx i hi => (hk.cell (by have := World.block_lt_of_cell? _ _ (h.2 x hx i hi); simpa [Addr.add] using this) (by simp)).trans (h.2 x hx i hi)⟩

/-- Many stores into one list. -/
def setMany (xs : List Value) (o : Nat) : List Value → List Value
  | [] => xs
  | v :: r => setMany (xs.set o v) (o + 1) r
theorem setMany_at : ∀ (vs : List Value) (xs : List Value) (o k : Nat), o + vs.length ≤ xs.length → (setMany xs o vs)[k]? = if o ≤ k ∧ k < o + vs.length then vs[k - o]? else xs[k]?
  | [], xs, o, k, _ => by simp [setMany]; omega
  | v :: r, xs, o, k, h => by
    have hl : o + (r.length + 1) ≤ xs.length := by simpa using h
    rw [setMany, setMany_at r (xs.set o v) (o + 1) k (by simp; omega)]
    by_cases h1 : o + 1 ≤ k ∧ k < o + 1 + r.length
    · rw [if_pos h1, if_pos (by simp; omega), show k - o = (k - (o + 1)) + 1 from by omega, List.getElem?_cons_succ]
    · rw [if_neg h1]
      by_cases h2 : k = o
      · subst h2
        rw [if_pos (by simp), List.getElem?_set_self (by omega)]
        simp
      · rw [if_neg (by simp; omega), List.getElem?_set_ne (by omega)]
theorem ownsMany {w : World} {B : Nat} {e : TypeId} {size g n c : Nat} : ∀ (vs xs : List Value) (o : Nat), w.ownsRow B e size (.slice (some ⟨g, 0, none⟩) n c) n xs →
    (w.setCells g o vs).ownsRow B e size (.slice (some ⟨g, 0, none⟩) n c) n (setMany xs o vs) ∧ Kept [some g] w (w.setCells g o vs) := by
  intro vs
  induction vs generalizing w with
  | nil => intro xs o h; exact ⟨h, Kept.refl _ _⟩
  | cons v r ih =>
    intro xs o h
    have h1 := World.ownsRow.stored h o v
    have h2 := ih (xs.set o v) (o + 1) h1.1
    exact ⟨h2.1, (Kept.ofGrown h1.2).trans h2.2 (by intro k hk _; exact hk)⟩

/-- What the new row holds behind i rounds of a copy. -/
def partS (S : Nat → Bool) (i : Nat) : Nat → Bool := fun k => if k < i * 256 then S k else false
theorem partS_step (n : Nat) (S : Nat → Bool) (i : Nat) (h : i < n) : setMany (flat n (partS S i)) (i * 256) (oneSet S i) = flat n (partS S (i + 1)) := by
  have hle : i * 256 + (oneSet S i).length ≤ (flat n (partS S i)).length := by
    rw [oneSet_length, flat_length]; omega
  apply List.ext_getElem?
  intro k
  rw [setMany_at _ _ _ _ hle, oneSet_length]
  clear hle
  by_cases h1 : i * 256 ≤ k ∧ k < i * 256 + 256
  · rw [if_pos h1, oneSet_at _ _ _ (by omega), flat_at _ _ _ (by omega)]
    simp only [partS]
    rw [show i * 256 + (k - i * 256) = k from by omega, if_pos (show k < (i + 1) * 256 by omega)]
  · rw [if_neg h1]
    by_cases h2 : k < n * 256
    · rw [flat_at _ _ _ h2, flat_at _ _ _ h2]
      simp only [partS]
      rw [Nat.succ_mul i 256]
      clear h2 h
      generalize i * 256 = q at *
      by_cases h3 : k < q
      · rw [if_pos h3, if_pos (show k < q + 256 by omega)]
      · rw [if_neg h3, if_neg (show ¬ k < q + 256 by omega)]
    · rw [List.getElem?_eq_none (by rw [flat_length]; omega), List.getElem?_eq_none (by rw [flat_length]; omega)]
theorem partS_full (n : Nat) (S : Nat → Bool) : flat n (partS S n) = flat n S := by
  apply List.ext_getElem?
  intro k
  by_cases h2 : k < n * 256
  · rw [flat_at _ _ _ h2, flat_at _ _ _ h2]
    simp only [partS]
    rw [if_pos h2]
  · rw [List.getElem?_eq_none (by rw [flat_length]; omega), List.getElem?_eq_none (by rw [flat_length]; omega)]
theorem madeS (n : Nat) : (madeCells (Value.agg (Array.replicate 256 (.bool false))).cells (n * 256)).toList = flat n (partS (fun _ => false) 0) := by
  apply List.ext_getElem?
  intro k
  by_cases h2 : k < n * 256
  · rw [flat_at _ _ _ h2]
    simp only [partS]
    rw [if_neg (by omega)]
    have hm : k % 256 < 256 := Nat.mod_lt _ (by decide)
    simp [madeCells, Value.cells, h2, hm]
  · rw [List.getElem?_eq_none (by simp [madeCells, Value.cells]; omega), List.getElem?_eq_none (by rw [flat_length]; omega)]

end Go.Proofs.Qxb6601532a
