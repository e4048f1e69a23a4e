/-
  OWN WORK: several rows of ints of the call's own, no two in one block, carried from world to world.
-/
import Derived.Test.Qxb6601940aKit
import Derived.Deep.AppendLies
namespace Go.Proofs.Qxb6601940a
open Go.RowKit

/-- The rows of l lie in w, among the blocks from B on, no two in one block. -/
def Rows5 (e : TypeId) (w : World) (B : Nat) (l : List (Value × Nat × List Int)) : Prop :=
  (∀ (i : Nat) r, l[i]? = some r → Own e .i64 w B r.1 r.2.1 r.2.2) ∧
  ∀ (i j : Nat) ri rj, i ≠ j → l[i]? = some ri → l[j]? = some rj → ∀ g, ri.1.ownBlock = some g → rj.1.ownBlock ≠ some g

def blocks (l : List (Value × Nat × List Int)) : List (Option Nat) := l.map fun r => r.1.ownBlock

theorem mem_blocks {l : List (Value × Nat × List Int)} {b : Option Nat} : b ∈ blocks l ↔ ∃ (i : Nat) (r : Value × Nat × List Int), l[i]? = some r ∧ r.1.ownBlock = b := by
  constructor
  · intro h
    obtain ⟨r, hr, he⟩ := List.mem_map.1 h
    obtain ⟨i, hi⟩ := List.getElem?_of_mem hr
    exact ⟨i, r, hi, he⟩
  · rintro ⟨i, r, hi, he⟩
    exact List.mem_map.2 ⟨r, List.mem_of_getElem? hi, he⟩

/-- What a piece of the run does to the rows l: they are l2 now; nothing else that was there has turned. -/
structure Turn (e : TypeId) (B : Nat) (l l2 : List (Value × Nat × List Int)) (w w2 : World) : Prop where
  rows : Rows5 e w2 B l2
  kept : Kept (blocks l) w w2
  loc : ∀ (i : Nat) r, l2[i]? = some r → ∀ g, r.1.ownBlock = some g → g < w.heap.size → some g ∈ blocks l

section
variable {e : TypeId} {B : Nat} {l l2 l3 : List (Value × Nat × List Int)} {w w2 w3 : World}

theorem Rows5.get (h : Rows5 e w B l) {i : Nat} {v : Value} {n : Nat} {xs : List Int} (hi : l[i]? = some (v, n, xs)) : Own e .i64 w B v n xs := h.1 i _ hi

theorem Turn.refl (h : Rows5 e w B l) : Turn e B l l w w := ⟨h, Kept.refl _ _, fun i r hi _ hg _ => mem_blocks.2 ⟨i, r, hi, hg⟩⟩

theorem Turn.trans (h : Turn e B l l2 w w2) (h2 : Turn e B l2 l3 w2 w3) : Turn e B l l3 w w3 := by
  refine ⟨h2.rows, h.kept.trans h2.kept ?_, ?_⟩
  · intro k hk hlt
    obtain ⟨i, r, hi, he⟩ := mem_blocks.1 hk
    exact h.loc i r hi k he hlt
  · intro i r hi g hg hlt
    obtain ⟨i', r', hi', he'⟩ := mem_blocks.1 (h2.loc i r hi g hg (Nat.lt_of_lt_of_le hlt h.kept.size))
    exact h.loc i' r' hi' g he' hlt

theorem Rows5.kept (h : Rows5 e w B l) (hk : Kept [] w w2) : Rows5 e w2 B l := ⟨fun i r hi => (h.1 i r hi).kept0 hk, h.2⟩

theorem Turn.keep (h : Rows5 e w B l) (hk : Kept [] w w2) : Turn e B l l w w2 :=
  ⟨h.kept hk, hk.mono (by simp), fun i r hi _ hg _ => mem_blocks.2 ⟨i, r, hi, hg⟩⟩

theorem Turn.next (h : Turn e B l l2 w w2) (hk : Kept [] w2 w3) : Turn e B l l2 w w3 := h.trans (Turn.keep h.rows hk)

/-- One row turns. -/
theorem Turn.upd (h : Rows5 e w B l) {i : Nat} {r r2 : Value × Nat × List Int} (hi : l[i]? = some r) (hk : Kept [r.1.ownBlock] w w2) (ho : Own e .i64 w2 B r2.1 r2.2.1 r2.2.2)
    (hloc : ∀ g, r2.1.ownBlock = some g → g < w.heap.size → r.1.ownBlock = some g) : Turn e B l (l.set i r2) w w2 := by
  have hil : i < l.length := (List.getElem?_eq_some_iff.1 hi).1
  have hget : ∀ (j : Nat) rj, (l.set i r2)[j]? = some rj → (j = i ∧ rj = r2) ∨ (j ≠ i ∧ l[j]? = some rj) := by
    intro j rj hj
    rw [List.getElem?_set] at hj
    by_cases e1 : i = j
    · subst e1; rw [if_pos rfl, if_pos hil] at hj; exact .inl ⟨rfl, by simpa using hj.symm⟩
    · rw [if_neg e1] at hj; exact .inr ⟨fun e2 => e1 e2.symm, hj⟩
  refine ⟨⟨?_, ?_⟩, ?_, ?_⟩
  · intro j rj hj
    rcases hget j rj hj with ⟨_, rfl⟩ | ⟨hne, hj⟩
    · exact ho
    · refine (h.1 j rj hj).kept hk ?_
      intro g hg hm
      simp only [List.mem_cons, List.not_mem_nil, or_false] at hm
      exact h.2 j i rj r hne hj hi g hg hm.symm
  · intro j j2 rj rj2 hne hj hj2 g hg hg2
    rcases hget j rj hj with ⟨rfl, rfl⟩ | ⟨hne1, hj1⟩
    · rcases hget j2 rj2 hj2 with ⟨rfl, _⟩ | ⟨hne2, hj2⟩
      · exact hne rfl
      · have hlt := ((h.1 j2 rj2 hj2).lt g hg2).2
        exact h.2 j2 j rj2 r hne2 hj2 hi g hg2 (hloc g hg hlt)
    · rcases hget j2 rj2 hj2 with ⟨rfl, rfl⟩ | ⟨hne2, hj2⟩
      · have hlt := ((h.1 j rj hj1).lt g hg).2
        exact h.2 j j2 rj r hne1 hj1 hi g hg (hloc g hg2 hlt)
      · exact h.2 j j2 rj rj2 hne hj1 hj2 g hg hg2
  · refine hk.mono ?_
    intro k _ hk2
    simp only [List.mem_cons, List.not_mem_nil, or_false] at hk2
    exact mem_blocks.2 ⟨i, r, hi, hk2.symm⟩
  · intro j rj hj g hg hlt
    rcases hget j rj hj with ⟨_, rfl⟩ | ⟨_, hj⟩
    · exact mem_blocks.2 ⟨i, r, hi, hloc g hg hlt⟩
    · exact mem_blocks.2 ⟨j, rj, hj, hg⟩

/-- An append of one number to the i-th row, the number laid in a block of its own first. -/
theorem Turn.app (h : Rows5 e w B l) {i : Nat} {v : Value} {n : Nat} {xs : List Int} (hi : l[i]? = some (v, n, xs)) {o : Obj} {g cap : Nat} {u : Int}
    (hown : w2.ownsRow B e 1 (.slice (some ⟨g, 0, none⟩) (n + 1) cap) (n + 1) (xs.map (Value.int .i64) ++ [.int .i64 u])) (hgrow : (w.alloc o).grownBy w2 v.ownBlock) (hat : v.ownBlock = some g ∨ g = w.heap.size + 1) :
    Turn e B l (l.set i (.slice (some ⟨g, 0, none⟩) (n + 1) cap, n + 1, xs ++ [u])) w w2 := by
  refine Turn.upd h hi (((Kept.alloc w o).mono (by simp)).trans (Kept.ofGrown hgrow) (by intro k hk _; exact hk)) ?_ ?_
  · show w2.ownsRow B e 1 _ _ ((xs ++ [u]).map (Value.int .i64))
    rw [List.map_append]
    exact hown
  · intro g2 hg2 hlt
    have e1 : g = g2 := by simpa [Value.ownBlock] using hg2
    subst e1
    rcases hat with h1 | h1
    · exact h1
    · omega

/-- A store into the i-th row. -/
theorem Turn.store (h : Rows5 e w B l) {i : Nat} {g n c : Nat} {xs : List Int} (hi : l[i]? = some (.slice (some ⟨g, 0, none⟩) n c, n, xs)) (j : Nat) (z : Int) :
    Turn e B l (l.set i (.slice (some ⟨g, 0, none⟩) n c, n, xs.set j z)) w (w.setCell ⟨g, j, none⟩ (.int .i64 z)) := by
  have ho := h.get hi
  have hs := ho.store j z
  exact Turn.upd h hi (by simpa [Value.ownBlock] using hs.2) hs.1 (fun _ hg _ => hg)

/-- Two rows lie apart. -/
theorem Rows5.ne (h : Rows5 e w B l) {i j : Nat} {g g2 n n2 c c2 : Nat} {xs ys : List Int} (hi : l[i]? = some (.slice (some ⟨g, 0, none⟩) n c, n, xs)) (hj : l[j]? = some (.slice (some ⟨g2, 0, none⟩) n2 c2, n2, ys)) (hne : i ≠ j) : g ≠ g2 := by
  intro e1
  subst e1
  exact h.2 i j _ _ hne hi hj g rfl rfl

/-- One row more, in a block that none of them has. -/
theorem Rows5.cons (h : Rows5 e w B l) {v : Value} {n : Nat} {xs : List Int} (ho : Own e .i64 w B v n xs) (hnew : ∀ g, v.ownBlock = some g → ∀ (i : Nat) r, l[i]? = some r → r.1.ownBlock ≠ some g) : Rows5 e w B ((v, n, xs) :: l) := by
  refine ⟨?_, ?_⟩
  · intro i r hi
    cases i with
    | zero => simp at hi; subst hi; exact ho
    | succ i => exact h.1 i r (by simpa using hi)
  · intro i j ri rj hne hi hj g hg hg2
    cases i with
    | zero =>
      simp at hi; subst hi
      cases j with
      | zero => exact hne rfl
      | succ j => exact hnew g hg j rj (by simpa using hj) hg2
    | succ i =>
      cases j with
      | zero => simp at hj; subst hj; exact hnew g hg2 i ri (by simpa using hi) hg
      | succ j => exact h.2 i j ri rj (by omega) (by simpa using hi) (by simpa using hj) g hg hg2

theorem Rows5.nil (w : World) (B : Nat) : Rows5 e w B [] := ⟨by simp, by simp⟩

/-- One row more, made just now. -/
theorem Rows5.made (h : Rows5 e w B l) (hk : Kept [] w w2) {v : Value} {n : Nat} {xs : List Int} (ho : Own e .i64 w2 B v n xs) (hnew : ∀ g, v.ownBlock = some g → w.heap.size ≤ g) : Rows5 e w2 B ((v, n, xs) :: l) :=
  (h.kept hk).cons ho fun g hg i r hi hr => by have := ((h.1 i r hi).lt g hr).2; have := hnew g hg; omega

theorem Rows5.left {l' : List (Value × Nat × List Int)} (h : Rows5 e w B (l ++ l')) : Rows5 e w B l := by
  have hg : ∀ (i : Nat) r, l[i]? = some r → (l ++ l')[i]? = some r := fun i r hi => by rw [List.getElem?_append_left (List.getElem?_eq_some_iff.1 hi).1]; exact hi
  exact ⟨fun i r hi => h.1 i r (hg i r hi), fun i j ri rj hne hi hj => h.2 i j ri rj hne (hg i ri hi) (hg j rj hj)⟩

/-- A piece of the run over the first rows leaves the others. -/
theorem Turn.frame {l' : List (Value × Nat × List Int)} (h : Rows5 e w B (l ++ l')) (ht : Turn e B l l2 w w2) : Turn e B (l ++ l') (l2 ++ l') w w2 := by
  have hr : ∀ (j : Nat) r, l'[j]? = some r → (l ++ l')[l.length + j]? = some r := fun j r hj => by rw [List.getElem?_append_right (by omega)]; simpa using hj
  have hl : ∀ (i : Nat) r, l[i]? = some r → (l ++ l')[i]? = some r := fun i r hi => by rw [List.getElem?_append_left (List.getElem?_eq_some_iff.1 hi).1]; exact hi
  have hcase : ∀ (j : Nat) r, (l2 ++ l')[j]? = some r → l2[j]? = some r ∨ (∃ j', j = l2.length + j' ∧ l'[j']? = some r) := by
    intro j r hj
    by_cases hlt : j < l2.length
    · rw [List.getElem?_append_left hlt] at hj; exact .inl hj
    · rw [List.getElem?_append_right (by omega)] at hj; exact .inr ⟨j - l2.length, by omega, hj⟩
  -- a row of l' is none of the blocks of l
  have hoff : ∀ (j : Nat) r, l'[j]? = some r → ∀ g, r.1.ownBlock = some g → some g ∉ blocks l := by
    intro j r hj g hg hm
    obtain ⟨i, ri, hi, he⟩ := mem_blocks.1 hm
    have hil := (List.getElem?_eq_some_iff.1 hi).1
    exact h.2 i (l.length + j) ri r (by omega) (hl i ri hi) (hr j r hj) g he hg
  refine ⟨⟨?_, ?_⟩, ?_, ?_⟩
  · intro j r hj
    rcases hcase j r hj with hj | ⟨j', _, hj⟩
    · exact ht.rows.1 j r hj
    · exact (h.1 _ r (hr j' r hj)).kept ht.kept (fun g hg => hoff j' r hj g hg)
  · intro i j ri rj hne hi hj g hg hg2
    rcases hcase i ri hi with hi | ⟨i', hi1, hi⟩
    · rcases hcase j rj hj with hj | ⟨j', hj1, hj⟩
      · exact ht.rows.2 i j ri rj hne hi hj g hg hg2
      · have hlt := ((h.1 _ rj (hr j' rj hj)).lt g hg2).2
        exact hoff j' rj hj g hg2 (ht.loc i ri hi g hg hlt)
    · rcases hcase j rj hj with hj | ⟨j', hj1, hj⟩
      · have hlt := ((h.1 _ ri (hr i' ri hi)).lt g hg).2
        exact hoff i' ri hi g hg (ht.loc j rj hj g hg2 hlt)
      · exact h.2 _ _ ri rj (by omega) (hr i' ri hi) (hr j' rj hj) g hg hg2
  · refine ht.kept.mono ?_
    intro k _ hk
    simp only [blocks, List.map_append, List.mem_append]
    exact .inl hk
  · intro j r hj g hg hlt
    simp only [blocks, List.map_append, List.mem_append]
    rcases hcase j r hj with hj | ⟨j', _, hj⟩
    · exact .inl (ht.loc j r hj g hg hlt)
    · exact .inr (List.mem_map.2 ⟨r, List.mem_of_getElem? hj, hg⟩)

/-- The rows in another order, or fewer of them. -/
theorem Rows5.pick (h : Rows5 e w B l) (f : Nat → Nat) (l' : List (Value × Nat × List Int)) (hf : ∀ (i : Nat), i < l'.length → l'[i]? = l[f i]?) (hinj : ∀ i j : Nat, i < l'.length → j < l'.length → f i = f j → i = j) : Rows5 e w B l' := by
  have hg : ∀ (i : Nat) r, l'[i]? = some r → l[f i]? = some r := fun i r hi => by rw [← hf i (List.getElem?_eq_some_iff.1 hi).1]; exact hi
  refine ⟨fun i r hi => h.1 _ r (hg i r hi), fun i j ri rj hne hi hj => h.2 (f i) (f j) ri rj (fun e1 => hne (hinj i j (List.getElem?_eq_some_iff.1 hi).1 (List.getElem?_eq_some_iff.1 hj).1 e1)) (hg i ri hi) (hg j rj hj)⟩

/-- Nothing below B has turned. -/
theorem Turn.below (h : Turn e B l l2 w w2) (hr : Rows5 e w B l) (hB : B ≤ w.heap.size) : Below B w w2 :=
  h.kept.below hB fun k hk => by obtain ⟨i, r, hi, he⟩ := mem_blocks.1 hk; exact ((hr.1 i r hi).lt k he).1
end

theorem Own.slice {e : TypeId} {k : IntKind} {w : World} {B : Nat} {v : Value} {n : Nat} {xs : List Int} (h : Own e k w B v n xs) : ∃ a c, v = .slice a n c := by
  rcases h.shape with ⟨hv, rfl⟩ | ⟨g, cap, hv, _⟩
  · exact ⟨_, _, hv⟩
  · exact ⟨_, _, hv⟩

theorem Own.cut0 {e : TypeId} {k : IntKind} {w : World} {B : Nat} {a : Option Addr} {n c : Nat} {xs : List Int} (h : Own e k w B (.slice a n c) n xs) : Own e k w B (.slice a 0 c) 0 [] := by
  refine ⟨by simp, ?_⟩
  rcases h.2 with ⟨hv, hn⟩ | ⟨g, cap, cur, hv, hb, hg, h1, h2, h3, h4⟩
  · simp only [Value.slice.injEq] at hv
    obtain ⟨rfl, rfl, rfl⟩ := hv
    exact .inl ⟨rfl, rfl⟩
  · simp only [Value.slice.injEq] at hv
    obtain ⟨rfl, _, rfl⟩ := hv
    exact .inr ⟨g, c, cur, rfl, hb, hg, Nat.zero_le _, h2, h3, by simp⟩

theorem Own.addr {e : TypeId} {k : IntKind} {w : World} {B : Nat} {a : Option Addr} {n c : Nat} {xs : List Int} (h : Own e k w B (.slice a n c) n xs) : a = none ∨ ∃ g, a = some ⟨g, 0, none⟩ := by
  rcases h.shape with ⟨hv, _⟩ | ⟨g, cap, hv, _⟩
  · simp at hv; exact .inl hv.1
  · simp at hv; exact .inr ⟨g, hv.1⟩

end Go.Proofs.Qxb6601940a
