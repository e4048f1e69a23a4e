/-
  OWN WORK: rows of integers that the call itself made, and what is kept of a world: no program named here.
-/
import Derived.WalkKit
import Derived.WalkSpells
import Derived.WalkLawsBesides
import Derived.WideShapes
namespace Go.Proofs.Qxb6601940a
open Go.RowKit

/-- The second world is the first but for new blocks and the blocks of S. -/
structure Kept (S : List (Option Nat)) (w w' : World) : Prop where
  os : w'.os = w.os
  tape : w'.tape = w.tape
  output : w'.output = w.output
  size : w.heap.size ≤ w'.heap.size
  block : ∀ k, k < w.heap.size → some k ∉ S → w'.heap[k]? = w.heap[k]?

theorem Kept.refl (S : List (Option Nat)) (w : World) : Kept S w w := ⟨rfl, rfl, rfl, Nat.le_refl _, fun _ _ _ => rfl⟩
theorem Kept.trans {S T : List (Option Nat)} {w w1 w2 : World} (h : Kept S w w1) (h' : Kept T w1 w2) (hT : ∀ k, some k ∈ T → k < w.heap.size → some k ∈ S) : Kept S w w2 := by
  refine ⟨h'.os.trans h.os, h'.tape.trans h.tape, h'.output.trans h.output, Nat.le_trans h.size h'.size, fun k hk hne => ?_⟩
  exact (h'.block k (Nat.lt_of_lt_of_le hk h.size) (fun e => hne (hT k e hk))).trans (h.block k hk hne)
theorem Kept.mono {S T : List (Option Nat)} {w w' : World} (h : Kept S w w') (hT : ∀ k, k < w.heap.size → some k ∈ S → some k ∈ T) : Kept T w w' :=
  ⟨h.os, h.tape, h.output, h.size, fun k hk hne => h.block k hk (fun e => hne (hT k hk e))⟩
theorem Kept.ofGrown {w w' : World} {r : Option Nat} (h : w.grownBy w' r) : Kept [r] w w' := ⟨h.os, h.tape, h.output, h.size, fun k hk hne => h.block k hk (fun e => hne (by simp [e]))⟩
theorem Kept.ofNew {w w' : World} (h : w.grownBy w' none) : Kept [] w w' := ⟨h.os, h.tape, h.output, h.size, fun k hk _ => h.block k hk (fun e => by cases e)⟩
theorem Kept.alloc (w : World) (o : Obj) : Kept [] w (w.alloc o) := Kept.ofNew (World.grownBy_alloc w o none)
theorem Kept.below {S : List (Option Nat)} {w w' : World} (h : Kept S w w') {B : Nat} (hB : B ≤ w.heap.size) (hS : ∀ k, some k ∈ S → B ≤ k) : Below B w w' :=
  ⟨h.os, h.tape, h.output, h.size, fun k hk => h.block k (by omega) (fun e => by have := hS k e; omega)⟩
theorem Kept.ofBelow {w w' : World} (h : Below w.heap.size w w') : Kept [] w w' := ⟨h.os, h.tape, h.output, h.size, fun k hk _ => h.block k hk⟩
theorem Kept.cell {S : List (Option Nat)} {w w' : World} (h : Kept S w w') {a : Addr} (ha : a.block < w.heap.size) (hS : some a.block ∉ S) : w'.cell? a = w.cell? a := World.cell?_of_block (h.block _ ha hS)
theorem Kept.frozen {S : List (Option Nat)} {w w' : World} (h : Kept S w w') {a : Addr} (ha : a.block < w.heap.size) (hS : some a.block ∉ S) : w'.frozen? a = w.frozen? a := World.frozen?_of_block (h.block _ ha hS)
theorem Kept.drewN (w : World) (n : Nat) : Kept [] w (w.drewN n) := ⟨rfl, rfl, rfl, Nat.le_refl _, fun _ _ _ => rfl⟩
theorem Kept.drew {S : List (Option Nat)} {w w' : World} (h : Kept S w w') : Kept S w w'.drew := ⟨h.os, h.tape, h.output, h.size, h.block⟩
/-- Nothing that was there has turned: two such steps. -/
theorem Kept.next {S : List (Option Nat)} {w w1 w2 : World} (h : Kept S w w1) (h' : Kept [] w1 w2) : Kept S w w2 := h.trans h' (by simp)

theorem ownsKept {S : List (Option Nat)} {w w' : World} {base : Nat} {e : TypeId} {size : Nat} {v : Value} {n : Nat} {xs : List Value} (h : w.ownsRow base e size v n xs) (hk : Kept S w w') (hne : ∀ k, v.ownBlock = some k → some k ∉ S) : w'.ownsRow base e size v n xs := by
  refine ⟨h.1, ?_⟩
  rcases h.2 with hn | ⟨g, cap, cur, rfl, hb, hgg, rest⟩
  · exact .inl hn
  · refine .inr ⟨g, cap, cur, rfl, hb, ?_, rest⟩
    rw [hk.block g (Array.getElem?_eq_some_iff.1 hgg).1 (hne g rfl)]
    exact hgg

/-- A row of integers of the call's own. -/
def Own (e : TypeId) (k : IntKind) (w : World) (B : Nat) (v : Value) (n : Nat) (xs : List Int) : Prop := w.ownsRow B e 1 v n (xs.map (Value.int k))

section
variable {e : TypeId} {k : IntKind} {w w' : World} {B : Nat} {v : Value} {n : Nat} {xs : List Int}
theorem Own.len (h : Own e k w B v n xs) : xs.length = n := by have := h.1; simpa using this
theorem Own.kept {S : List (Option Nat)} (h : Own e k w B v n xs) (hk : Kept S w w') (hne : ∀ g, v.ownBlock = some g → some g ∉ S) : Own e k w' B v n xs := ownsKept h hk hne
theorem Own.kept0 (h : Own e k w B v n xs) (hk : Kept [] w w') : Own e k w' B v n xs := ownsKept h hk (by simp)
theorem Own.lt (h : Own e k w B v n xs) : ∀ g, v.ownBlock = some g → B ≤ g ∧ g < w.heap.size := World.ownsRow.lt h
theorem Own.nil (w : World) (B : Nat) : Own e k w B (.slice none 0 0) 0 [] := World.ownsRow_nil w B e 1
/-- Its shape. -/
theorem Own.shape (h : Own e k w B v n xs) : (v = .slice none 0 0 ∧ n = 0) ∨ ∃ g cap, v = .slice (some ⟨g, 0, none⟩) n cap ∧ B ≤ g ∧ g < w.heap.size ∧ n ≤ cap ∧ cap ≤ maxLen := by
  rcases h.2 with hn | ⟨g, cap, cur, rfl, hb, hgg, h1, h2, _⟩
  · exact .inl hn
  · exact .inr ⟨g, cap, rfl, hb, (Array.getElem?_eq_some_iff.1 hgg).1, h1, h2⟩
theorem Own.pos (h : Own e k w B v n xs) (hn : 0 < n) : ∃ g cap, v = .slice (some ⟨g, 0, none⟩) n cap ∧ B ≤ g ∧ g < w.heap.size ∧ n ≤ cap ∧ cap ≤ maxLen := by
  rcases h.shape with ⟨_, h0⟩ | h0
  · omega
  · exact h0
variable {g c : Nat}
theorem Own.cell (h : Own e k w B (.slice (some ⟨g, 0, none⟩) n c) n xs) {j : Nat} (hj : j < n) : w.cell? ⟨g, j, none⟩ = some (.int k (xs.getD j 0)) := by
  rw [World.ownsRow.cellAt h j (by omega)]
  have hl := h.len
  rw [List.getElem?_map, List.getElem?_eq_getElem (by omega)]
  simp [List.getD, show j < xs.length by omega]
theorem Own.fr (h : Own e k w B (.slice (some ⟨g, 0, none⟩) n c) n xs) (j : Nat) : w.frozen? ⟨g, j, none⟩ = false := World.ownsRow.frozenAt h j
theorem Own.store (h : Own e k w B (.slice (some ⟨g, 0, none⟩) n c) n xs) (j : Nat) (z : Int) :
    Own e k (w.setCell ⟨g, j, none⟩ (.int k z)) B (.slice (some ⟨g, 0, none⟩) n c) n (xs.set j z) ∧ Kept [some g] w (w.setCell ⟨g, j, none⟩ (.int k z)) := by
  have := World.ownsRow.stored h j (.int k z)
  rw [← List.map_set] at this
  exact ⟨this.1, Kept.ofGrown this.2⟩
theorem Own.lt' (h : Own e k w B (.slice (some ⟨g, 0, none⟩) n c) n xs) : B ≤ g ∧ g < w.heap.size := h.lt g rfl
theorem Own.drew (h : Own e k w B v n xs) : Own e k w.drew B v n xs := h
end

/-- What a new row holds behind i rounds of a copy. -/
def part (xs : List Int) (i : Nat) : List Int := xs.take i ++ List.replicate (xs.length - i) 0
theorem part_length (xs : List Int) (k : Nat) (h : k ≤ xs.length) : (part xs k).length = xs.length := by simp [part]; omega
theorem part_zero (xs : List Int) : part xs 0 = List.replicate xs.length 0 := by simp [part]
theorem part_full (xs : List Int) : part xs xs.length = xs := by simp [part]
theorem part_step (xs : List Int) (k : Nat) (h : k < xs.length) : (part xs k).set k (xs.getD k 0) = part xs (k + 1) := by
  apply List.ext_getElem
  · simp [part]; omega
  · intro i h1 h2
    have hi : i < xs.length := by simp [part] at h2; omega
    rw [List.getElem_set]
    simp only [part, List.getElem_append, List.length_take, List.getElem_take, List.getElem_replicate]
    by_cases e : k = i
    · subst e; rw [if_pos rfl, dif_pos (by omega)]; simp [h, List.getD]
    · rw [if_neg e]
      by_cases h3 : i < k
      · rw [dif_pos (by omega), dif_pos (by omega)]
      · rw [dif_neg (by omega), dif_neg (by omega)]

/-- A row just made. -/
theorem own_made {e : TypeId} {k : IntKind} {w : World} {B : Nat} {v : Value} {n : Nat} (h : w.ownsRow B e 1 v n (madeCells #[Value.int k 0] n).toList) : Own e k w B v n (List.replicate n 0) := by
  unfold Own
  rw [List.map_replicate]
  rw [toList_madeCells_one] at h
  exact h

theorem ret_slice {a b : Value} (h : a = b) : Ending.returned a = .returned b := by rw [h]

/-- What is known of a slice that is read. -/
def Rd (k : IntKind) (w : World) (a : Option Addr) (xs : List Int) : Prop :=
  (a = none → xs = []) ∧ ∀ x, a = some x → ∀ i, i < xs.length → w.cell? (x.add i) = some (.int k (xs.getD i 0))

theorem Rd.kept {k : IntKind} {w w' : World} {a : Option Addr} {xs : List Int} (h : Rd k w a xs) (hk : Kept [] w w') : Rd k w' a xs :=
  ⟨h.1, fun x hx i hi => (hk.cell (by have := World.block_lt_of_cell? _ _ (h.2 x hx i hi); simpa [Addr.add] using this) (by simp)).trans (h.2 x hx i hi)⟩
theorem Own.rd {e : TypeId} {k : IntKind} {w : World} {B : Nat} {a : Option Addr} {n c : Nat} {xs : List Int} (h : Own e k w B (.slice a n c) n xs) : Rd k w a xs := by
  have hl := h.len
  rcases h.shape with ⟨hv, hn⟩ | ⟨g, cap, hv, _⟩
  · simp only [Value.slice.injEq] at hv
    obtain ⟨rfl, rfl, rfl⟩ := hv
    have : xs = [] := List.eq_nil_of_length_eq_zero hl
    subst this
    exact ⟨fun _ => rfl, fun x hx => (by cases hx)⟩
  · simp only [Value.slice.injEq] at hv
    obtain ⟨rfl, _, rfl⟩ := hv
    refine ⟨fun h => (by cases h), fun x hx i hi => ?_⟩
    cases hx
    rw [WideShapes.add_plain, Nat.zero_add]
    exact h.cell (by omega)

theorem Rd.at {k : IntKind} {w : World} {a : Option Addr} {xs : List Int} (h : Rd k w a xs) (hp : 0 < xs.length) : ∃ b off, a = some ⟨b, off, none⟩ ∧ ∀ j, j < xs.length → w.cell? ⟨b, off + j, none⟩ = some (.int k (xs.getD j 0)) := by
  cases a with
  | none => rw [h.1 rfl] at hp; simp at hp
  | some x =>
    obtain ⟨b, off, spot⟩ := x
    have hs : spot = none := by simpa [Addr.add] using World.cell?_spot (h.2 _ rfl 0 hp)
    subst hs
    exact ⟨b, off, rfl, fun j hj => by have := h.2 _ rfl j hj; rwa [WideShapes.add_plain] at this⟩
theorem Own.nilCap {e : TypeId} {k : IntKind} {w : World} {B : Nat} {a : Option Addr} {n c : Nat} {xs : List Int} (o : Own e k w B (.slice a n c) n xs) : a = none → c = 0 := by
  intro e1
  rcases o.shape with ⟨hv, _⟩ | ⟨g, cap, hv, _⟩
  · simp at hv; exact hv.2.2
  · simp [e1] at hv

end Go.Proofs.Qxb6601940a
