import Derived.Test.Qxb6601940aTopC
namespace Go.Proofs.Qxb6601940a
open Go.RowKit

theorem Own.base {e : TypeId} {k : IntKind} {w : World} {B B2 : Nat} {v : Value} {n : Nat} {xs : List Int} (h : Own e k w B2 v n xs) (hB : B ≤ B2) : Own e k w B v n xs := by
  refine ⟨h.1, ?_⟩
  rcases h.2 with hn | ⟨g, cap, cur, hv, hb, rest⟩
  · exact .inl hn
  · exact .inr ⟨g, cap, cur, hv, Nat.le_trans hB hb, rest⟩

/-- Rows of two ages. -/
theorem Rows5.join {e : TypeId} {w : World} {B B2 : Nat} {l1 l2 : List (Value × Nat × List Int)} (h1 : Rows5 e w B l1) (h2 : Rows5 e w B2 l2) (hB : B ≤ B2) (hlt : ∀ (i : Nat) r, l1[i]? = some r → ∀ g, r.1.ownBlock = some g → g < B2) : Rows5 e w B (l1 ++ l2) := by
  have hcase : ∀ (j : Nat) r, (l1 ++ l2)[j]? = some r → l1[j]? = some r ∨ (∃ j', j = l1.length + j' ∧ l2[j']? = some r) := by
    intro j r hj
    by_cases hl : j < l1.length
    · rw [List.getElem?_append_left hl] at hj; exact .inl hj
    · rw [List.getElem?_append_right (by omega)] at hj; exact .inr ⟨j - l1.length, by omega, hj⟩
  refine ⟨?_, ?_⟩
  · intro j r hj
    rcases hcase j r hj with hj | ⟨j', _, hj⟩
    · exact h1.1 j r hj
    · exact (h2.1 j' r hj).base hB
  · intro i j ri rj hne hi hj g hg hg2
    rcases hcase i ri hi with hi | ⟨i', hi1, hi⟩
    · rcases hcase j rj hj with hj | ⟨j', hj1, hj⟩
      · exact h1.2 i j ri rj hne hi hj g hg hg2
      · have := hlt i ri hi g hg
        have := ((h2.1 j' rj hj).lt g hg2).1
        omega
    · rcases hcase j rj hj with hj | ⟨j', hj1, hj⟩
      · have := hlt j rj hj g hg2
        have := ((h2.1 i' ri hi).lt g hg).1
        omega
      · exact h2.2 i' j' ri rj (by omega) hi hj g hg hg2

end Go.Proofs.Qxb6601940a
