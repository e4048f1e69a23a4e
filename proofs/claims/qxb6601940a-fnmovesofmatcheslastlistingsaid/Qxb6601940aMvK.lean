import Derived.Test.Qxb6601940aMvG
import Derived.Test.Qxb6601940aMvH
import Derived.Test.Qxb6601940aMvI
import Derived.Test.Qxb6601940aMvJ
namespace Go.Proofs.Qxb6601940a
open Go.RowKit
set_option linter.unusedVariables false

theorem core_mem {ps qs : List Pt} (h : qs.map core = ps.map core) {q : Pt} (hq : q ∈ qs) : ∃ p ∈ ps, core p = core q := by
  have : core q ∈ ps.map core := by rw [← h]; exact List.mem_map_of_mem hq
  obtain ⟨p, hp, e⟩ := List.mem_map.1 this
  exact ⟨p, hp, e⟩
theorem Few.of_core {ps qs : List Pt} (h : qs.map core = ps.map core) (hf : Few ps) : Few qs := by
  refine ⟨?_, fun q hq => ?_⟩
  · have := congrArg List.length h
    simp at this
    rw [this]; exact hf.1
  · obtain ⟨p, hp, e⟩ := core_mem h hq
    have e2 : p.reps = q.reps := congrArg Cr.reps e
    rw [← e2]; exact hf.2 p hp
theorem WfP.of_core {ps qs : List Pt} (h : qs.map core = ps.map core) (hf : WfP ps) : WfP qs := by
  intro q hq
  obtain ⟨p, hp, e⟩ := core_mem h hq
  have e1 : p.svc = q.svc := congrArg Cr.svc e
  have e2 : p.num = q.num := congrArg Cr.num e
  have e3 : p.reps = q.reps := congrArg Cr.reps e
  rw [← e1, ← e2, ← e3]; exact hf p hp

theorem cp_any (a : Option Addr) (n c : Nat) (ps : List Pt) (w : World) (hl : ps.length = n) (hr : RdP w a ps) (hc : a = none → c = 0) (hf : Few ps) : Calls Try.prog 14 #[.slice a n c] w (Cloned n a.isNone ps w) := by
  cases a with
  | none =>
    obtain rfl := hc rfl
    obtain rfl := hr.1 rfl
    obtain rfl : n = 0 := by simpa using hl.symm
    exact cp_nil w
  | some x => exact cp_some x n c ps w hl hr hf
theorem to_any (a : Option Addr) (n c : Nat) (ps : List Pt) (w : World) (hl : ps.length = n) (hr : RdP w a ps) (hc : a = none → c = 0) (hf : Few ps) : Calls Try.prog 16 #[.slice a n c] w (Cloned n a.isNone ps w) := by
  cases a with
  | none =>
    obtain rfl := hc rfl
    obtain rfl := hr.1 rfl
    obtain rfl : n = 0 := by simpa using hl.symm
    exact to_nil w
  | some x => exact to_some x n c ps w hl hr hf

/-! ### The law of the same listing -/
theorem diff_eq {α : Type} {s : α → α → Prop} (hs : ∀ x y, s x y → s y x) {l : List α} (h : Diff s l l.length) {x y : α} (hx : x ∈ l) (hy : y ∈ l) (e : s x y) : x = y := by
  obtain ⟨i, hi⟩ := List.mem_iff_getElem?.1 hx
  obtain ⟨j, hj⟩ := List.mem_iff_getElem?.1 hy
  have li := (List.getElem?_eq_some_iff.1 hi).1
  have lj := (List.getElem?_eq_some_iff.1 hj).1
  by_cases h1 : j < i
  · exact absurd e (h i j x y li h1 hi hj)
  · by_cases h2 : i < j
    · exact absurd (hs _ _ e) (h j i y x lj h2 hj hi)
    · obtain rfl : i = j := by omega
      rw [hi] at hj; cases hj; rfl
theorem moves_same {ps : List Pt} (hd : Dist ps) : moves (ps.map core) (ps.map core) = [] := by
  unfold moves
  rw [List.flatMap_eq_nil_iff]
  intro c hc
  obtain ⟨p, hp, rfl⟩ := List.mem_map.1 hc
  unfold mvP
  cases h : lastOf (fun c : Cr => c.svc = (core p).svc ∧ c.num = (core p).num) (ps.map core) with
  | none => rfl
  | some c =>
    obtain ⟨⟨e1, e2⟩, hm⟩ := lastOf_some h
    obtain ⟨q, hq, rfl⟩ := List.mem_map.1 hm
    have e : q = p := diff_eq (s := likeP) (fun x y h => ⟨h.1.symm, h.2.symm⟩) hd.1 hq hp ⟨e1, e2⟩
    subst e
    show List.flatMap _ _ = []
    rw [List.flatMap_eq_nil_iff]
    intro r hr
    unfold mvR
    obtain ⟨i, hi⟩ := List.mem_iff_getElem?.1 hq
    have hR := hd.2 i q (List.getElem?_eq_some_iff.1 hi).1 hi
    cases h2 : lastOf (fun x : Rp => x.num = r.num) (core q).reps with
    | none => rfl
    | some x =>
      obtain ⟨e3, hm2⟩ := lastOf_some h2
      have e4 : x = r := diff_eq (s := likeR) (fun x y h => h.symm) hR hm2 hr e3
      subst e4
      simp

end Go.Proofs.Qxb6601940a
