import Derived.Test.Qxb6601940aNumD
import Derived.Test.Qxb6601940aPlainB
namespace Go.Proofs.Qxb6601940a
open Go.RowKit
set_option linter.unusedVariables false

theorem Try.info4 : (Try.prog.info? 4).map (fun i => (i.zero, i.size, i.bytes)) = some (some (.bool false), 1, 1) := by kernel_rfl

theorem Own.drewN {e : TypeId} {k : IntKind} {w : World} {B : Nat} {v : Value} {n : Nat} {xs : List Int} (h : Own e k w B v n xs) (m : Nat) : Own e k (w.drewN m) B v n xs := h

/-- A row of bools of the call's own. -/
def OwnB (w : World) (B : Nat) (v : Value) (n : Nat) (bs : List Bool) : Prop := w.ownsRow B 4 1 v n (bs.map Value.bool)
section
variable {w : World} {B : Nat} {n g c : Nat} {bs : List Bool}
theorem OwnB.cell (h : OwnB w B (.slice (some ⟨g, 0, none⟩) n c) n bs) {j : Nat} (hj : j < n) : w.cell? ⟨g, j, none⟩ = some (.bool (bs.getD j false)) := by
  rw [World.ownsRow.cellAt h j (by omega)]
  have hl : bs.length = n := by have := h.1; simpa using this
  rw [List.getElem?_map, List.getElem?_eq_getElem (by omega)]
  simp [List.getD, show j < bs.length by omega]
theorem OwnB.fr (h : OwnB w B (.slice (some ⟨g, 0, none⟩) n c) n bs) (j : Nat) : w.frozen? ⟨g, j, none⟩ = false := World.ownsRow.frozenAt h j
theorem OwnB.store (h : OwnB w B (.slice (some ⟨g, 0, none⟩) n c) n bs) (j : Nat) (z : Bool) :
    OwnB (w.setCell ⟨g, j, none⟩ (.bool z)) B (.slice (some ⟨g, 0, none⟩) n c) n (bs.set j z) ∧ Kept [some g] w (w.setCell ⟨g, j, none⟩ (.bool z)) := by
  have := World.ownsRow.stored h j (.bool z)
  rw [← List.map_set] at this
  exact ⟨this.1, Kept.ofGrown this.2⟩
theorem OwnB.drewN {v : Value} (h : OwnB w B v n bs) (m : Nat) : OwnB (w.drewN m) B v n bs := h
theorem OwnB.kept0 {w' : World} {v : Value} (h : OwnB w B v n bs) (hk : Kept [] w w') : OwnB w' B v n bs := ownsKept h hk (by simp)
end
theorem ownB_made {w : World} {B : Nat} {v : Value} {n : Nat} (h : w.ownsRow B 4 1 v n (madeCells #[Value.bool false] n).toList) : OwnB w B v n (List.replicate n false) := by
  unfold OwnB
  rw [List.map_replicate]
  rw [toList_madeCells_one] at h
  exact h

theorem own_made2 {e : TypeId} {k : IntKind} {w : World} {B : Nat} {v : Value} {n : Nat} (h : w.ownsRow B e 1 v n (madeCells (Value.int k 0).cells (n * 1)).toList) : Own e k w B v n (List.replicate n 0) := own_made (by rw [Nat.mul_one] at h; exact h)
theorem ownB_made2 {w : World} {B : Nat} {v : Value} {n : Nat} (h : w.ownsRow B 4 1 v n (madeCells (Value.bool false).cells (n * 1)).toList) : OwnB w B v n (List.replicate n false) := ownB_made (by rw [Nat.mul_one] at h; exact h)

theorem allZ_replicate {xs : List Int} {n : Nat} (hl : xs.length = n) (h : allZ xs = true) : xs = List.replicate n 0 := by
  apply List.ext_getElem
  · simp [hl]
  · intro i h1 h2
    have := List.all_eq_true.1 h _ (List.getElem_mem h1)
    simpa using this
theorem replicate_allZ (n : Nat) : allZ (List.replicate n 0) = true := by
  simp [allZ]
theorem keysB_at {v : Int} {xs : List Int} (h : keysB v xs = true) : ∀ j, j < xs.length → 0 ≤ xs.getD j 0 ∧ xs.getD j 0 < v := by
  intro j hj
  have := List.all_eq_true.1 h _ (List.getElem_mem hj)
  simpa [List.getD, hj] using this

/-- The clones of the four rows of a numbering and two of the keys, in the order in which they are taken. -/
theorem rows6 {w : World} {B : Nat} {r0 r1 r2 r3 r4 r5 : Value × Nat × List Int} (h : Rows5 3 w B [r5, r4, r3, r2, r1, r0]) : Rows5 3 w B ([r0, r1, r2, r3, r5] ++ [r4]) :=
  h.pick (fun i => [5, 4, 3, 2, 0, 1].getD i 0) _ (by
    intro i hi
    match i, hi with
    | 0, _ => rfl
    | 1, _ => rfl
    | 2, _ => rfl
    | 3, _ => rfl
    | 4, _ => rfl
    | 5, _ => rfl
    | _ + 6, hi => simp at hi; omega) (by
    intro i j hi hj
    simp at hi hj
    match i, j with
    | 0, 0 => simp
    | 0, 1 => simp
    | 0, 2 => simp
    | 0, 3 => simp
    | 0, 4 => simp
    | 0, 5 => simp
    | 1, 0 => simp
    | 1, 1 => simp
    | 1, 2 => simp
    | 1, 3 => simp
    | 1, 4 => simp
    | 1, 5 => simp
    | 2, 0 => simp
    | 2, 1 => simp
    | 2, 2 => simp
    | 2, 3 => simp
    | 2, 4 => simp
    | 2, 5 => simp
    | 3, 0 => simp
    | 3, 1 => simp
    | 3, 2 => simp
    | 3, 3 => simp
    | 3, 4 => simp
    | 3, 5 => simp
    | 4, 0 => simp
    | 4, 1 => simp
    | 4, 2 => simp
    | 4, 3 => simp
    | 4, 4 => simp
    | 4, 5 => simp
    | 5, 0 => simp
    | 5, 1 => simp
    | 5, 2 => simp
    | 5, 3 => simp
    | 5, 4 => simp
    | 5, 5 => simp
    | _ + 6, _ => omega
    | _, _ + 6 => omega)

end Go.Proofs.Qxb6601940a
