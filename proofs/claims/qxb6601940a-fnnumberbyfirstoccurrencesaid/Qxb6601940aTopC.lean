import Derived.Test.Qxb6601940aTopB
namespace Go.Proofs.Qxb6601940a
open Go.RowKit

/-- The rows in another order, or fewer of them, by their places. -/
theorem Rows5.perm {e : TypeId} {w : World} {B : Nat} {l : List (Value × Nat × List Int)} (h : Rows5 e w B l) (is : List Nat) (l' : List (Value × Nat × List Int)) (hl : is.map (fun i => l[i]?) = l'.map some) (hn : is.Nodup) : Rows5 e w B l' := by
  have hlen : is.length = l'.length := by have := congrArg List.length hl; simpa using this
  have hat : ∀ (i : Nat) (hi : i < is.length), l'[i]? = l[is[i]]? := by
    intro i hi
    have h1 := congrArg (fun x => x[i]?) hl
    simp only [List.getElem?_map, List.getElem?_eq_getElem hi, List.getElem?_eq_getElem (show i < l'.length by omega), Option.map_some, Option.some.injEq] at h1
    rw [h1, List.getElem?_eq_getElem (by omega)]
  refine ⟨?_, ?_⟩
  · intro i r hi
    have hil : i < is.length := by rw [hlen]; exact (List.getElem?_eq_some_iff.1 hi).1
    exact h.1 is[i] r (by rw [← hat i hil]; exact hi)
  · intro i j ri rj hne hi hj
    have hil : i < is.length := by rw [hlen]; exact (List.getElem?_eq_some_iff.1 hi).1
    have hjl : j < is.length := by rw [hlen]; exact (List.getElem?_eq_some_iff.1 hj).1
    refine h.2 is[i] is[j] ri rj ?_ (by rw [← hat i hil]; exact hi) (by rw [← hat j hjl]; exact hj)
    intro e1
    have h1 := hn.idxOf_getElem i hil
    have h2 := hn.idxOf_getElem j hjl
    rw [e1] at h1
    omega

/-- A nil slice beside them. -/
theorem Rows5.consNil {e : TypeId} {w : World} {B : Nat} {l : List (Value × Nat × List Int)} (h : Rows5 e w B l) : Rows5 e w B ((.slice none 0 0, 0, []) :: l) :=
  h.cons (Own.nil w B) (by intro g hg; simp [Value.ownBlock] at hg)

/-- Rows that all lie from B on: nothing below has turned. -/
theorem Turn.keptB {e : TypeId} {B : Nat} {l l2 : List (Value × Nat × List Int)} {w0 w w2 : World} (h : Turn e B l l2 w w2) (hr : Rows5 e w B l) (hk : Kept [] w0 w) (hB : B = w0.heap.size) : Kept [] w0 w2 :=
  hk.trans h.kept (by
    intro k hk2 hlt
    obtain ⟨i, r, hi, he⟩ := mem_blocks.1 hk2
    have := ((hr.1 i r hi).lt k he).1
    omega)

end Go.Proofs.Qxb6601940a
