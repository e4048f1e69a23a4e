import Derived.Test.Qxb6601940aMvL
import Derived.Deep.SlicePairs
namespace Go.Proofs.Qxb6601940a
open Go.RowKit Go.Deep Go.WideShapes
set_option linter.unusedVariables false

/-! ### A listing that came in -/
theorem cellsOf51 : Try.prog.cellsOf 51 = 4 := by kernel_rfl
theorem cellsOf53 : Try.prog.cellsOf 53 = 4 := by kernel_rfl
theorem cellsOf49 : Try.prog.cellsOf 49 = 1 := by kernel_rfl
theorem list_of {α : Type} {p : Nat → α → Prop} : ∀ n, (∀ i, i < n → ∃ x, p i x) → ∃ l : List α, l.length = n ∧ ∀ i x, l[i]? = some x → p i x
  | 0, _ => ⟨[], rfl, fun i x h => by simp at h⟩
  | n + 1, h => by
    obtain ⟨l, hl, hp⟩ := list_of n (fun i hi => h i (by omega))
    obtain ⟨x, hx⟩ := h n (by omega)
    refine ⟨l ++ [x], by simp [hl], fun i y hy => ?_⟩
    by_cases hi : i < l.length
    · rw [List.getElem?_append_left hi] at hy; exact hp i y hy
    · have h2 := (List.getElem?_eq_some_iff.1 hy).1
      simp at h2
      obtain rfl : i = l.length := by omega
      simp at hy
      subst hy
      rw [hl]; exact hx

section
variable {H : Type} {enc : TypeId × Value → H} {w : World} {base : Nat} {spare : Nat → Bool} {held : Bool}

theorem open_reps {fuel : Nat} {cs : List Value} {x : DataW H × List MemPlace} (h : DataW.trod enc Try.prog w base spare held fuel 49 cs = some x) :
    ∃ (a : Option Addr) (c : Nat) (rs : List Rp), cs = [.slice a rs.length c] ∧ RdR w a rs ∧ (a = none → c = 0) ∧ rs.length ≤ maxLen ∧ ∀ r ∈ rs, (Lit.int .i64 r.num).wf = true := by
  rcases open_slice Try.underlying49 h with ⟨rfl, _⟩ | ⟨a, len, cap, m, n, D, Pl, rfl, hb, hl, hm, hmm, _, hx⟩
  · exact ⟨none, 0, [], rfl, ⟨fun _ => rfl, fun x hx => (by cases hx)⟩, fun _ => rfl, by simp [maxLen], fun r hr => by simp at hr⟩
  · have hlm : len ≤ m := by rw [hmm]; split <;> omega
    obtain ⟨rs, hrl, hrp⟩ := list_of (p := fun i (r : Rp) => w.cell? (a.add (i * 4)) = some (.int .i64 r.num) ∧ w.cell? (a.add (i * 4 + 1)) = some (.string r.node) ∧ w.cell? (a.add (i * 4 + 2)) = some (.string r.fd) ∧ w.cell? (a.add (i * 4 + 3)) = some (.string r.ud) ∧ (Lit.int .i64 r.num).wf = true) len (fun i hi => by
      obtain ⟨cs', h1, h2⟩ := hx i (by omega)
      rw [cellsOf53] at h1
      obtain ⟨_, hlen, hcell⟩ := World.cells?_some h1
      obtain ⟨xs, k, hk, hxy, _, hxl, hf⟩ := DataW.trod_struct Try.underlying53 h2
      match xs, hxl, cs', hlen with
      | [y0, y1, y2, y3], _, [v0, v1, v2, v3], _ =>
        have g0 := hf 0 _ rfl
        have g1 := hf 1 _ rfl
        have g2 := hf 2 _ rfl
        have g3 := hf 3 _ rfl
        simp [cellsOf3, cellsOf9] at g0 g1 g2 g3
        have e0 := hcell 0 (by omega)
        have e1 := hcell 1 (by omega)
        have e2 := hcell 2 (by omega)
        have e3 := hcell 3 (by omega)
        rw [add_add] at e0 e1 e2 e3
        obtain ⟨z, hz, _, hwf⟩ := DataW.trod_int Try.underlying3 g0
        obtain ⟨s1, hs1, _, _⟩ := DataW.trod_string Try.underlying9 g1
        obtain ⟨s2, hs2, _, _⟩ := DataW.trod_string Try.underlying9 g2
        obtain ⟨s3, hs3, _, _⟩ := DataW.trod_string Try.underlying9 g3
        simp only [List.cons.injEq, and_true] at hz hs1 hs2 hs3
        subst hz hs1 hs2 hs3
        exact ⟨⟨z, s1, s2, s3⟩, by simpa using e0, by simpa using e1, by simpa using e2, by simpa using e3, hwf⟩)
    refine ⟨some a, cap, rs, by rw [hrl], ⟨fun e => (by cases e), fun y hy i r hr => ?_⟩, fun e => (by cases e), by omega, fun r hr => ?_⟩
    · cases hy
      obtain ⟨c0, c1, c2, c3, _⟩ := hrp i r hr
      exact ⟨c0, c1, c2, c3⟩
    · obtain ⟨i, hi⟩ := List.mem_iff_getElem?.1 hr
      exact (hrp i r hi).2.2.2.2

theorem open_parts {fuel : Nat} {cs : List Value} {x : DataW H × List MemPlace} (h : DataW.trod enc Try.prog w base spare held fuel 22 cs = some x) :
    ∃ (a : Option Addr) (c : Nat) (ps : List Pt), cs = [.slice a ps.length c] ∧ RdP w a ps ∧ (a = none → c = 0) ∧ ps.length ≤ maxLen ∧ Lens ps ∧ WfP ps := by
  rcases open_slice Try.underlying22 h with ⟨rfl, _⟩ | ⟨a, len, cap, m, n, D, Pl, rfl, hb, hl, hm, hmm, _, hx⟩
  · exact ⟨none, 0, [], rfl, ⟨fun _ => rfl, fun x hx => (by cases hx)⟩, fun _ => rfl, by simp [maxLen], fun r hr => by simp at hr, fun r hr => by simp at hr⟩
  · have hlm : len ≤ m := by rw [hmm]; split <;> omega
    obtain ⟨ps, hrl, hrp⟩ := list_of (p := fun i (p : Pt) => (w.cell? (a.add (i * 4)) = some (.string p.svc) ∧ w.cell? (a.add (i * 4 + 1)) = some (.int .i64 p.num) ∧ w.cell? (a.add (i * 4 + 2)) = some (.string p.rule) ∧ w.cell? (a.add (i * 4 + 3)) = some (.slice p.ra p.reps.length p.rc) ∧ RdR w p.ra p.reps ∧ (p.ra = none → p.rc = 0)) ∧ p.reps.length ≤ maxLen ∧ p.svc.size ≤ maxLen ∧ (Lit.int .i64 p.num).wf = true ∧ ∀ r ∈ p.reps, (Lit.int .i64 r.num).wf = true) len (fun i hi => by
      obtain ⟨cs', h1, h2⟩ := hx i (by omega)
      rw [cellsOf51] at h1
      obtain ⟨_, hlen, hcell⟩ := World.cells?_some h1
      obtain ⟨xs, k, hk, hxy, _, hxl, hf⟩ := DataW.trod_struct Try.underlying51 h2
      match xs, hxl, cs', hlen with
      | [y0, y1, y2, y3], _, [v0, v1, v2, v3], _ =>
        have g0 := hf 0 _ rfl
        have g1 := hf 1 _ rfl
        have g2 := hf 2 _ rfl
        have g3 := hf 3 _ rfl
        simp [cellsOf3, cellsOf9, cellsOf49] at g0 g1 g2 g3
        have e0 := hcell 0 (by omega)
        have e1 := hcell 1 (by omega)
        have e2 := hcell 2 (by omega)
        have e3 := hcell 3 (by omega)
        rw [add_add] at e0 e1 e2 e3
        obtain ⟨s0, hs0, _, hsz⟩ := DataW.trod_string Try.underlying9 g0
        obtain ⟨z, hz, _, hwf⟩ := DataW.trod_int Try.underlying3 g1
        obtain ⟨s2, hs2, _, _⟩ := DataW.trod_string Try.underlying9 g2
        obtain ⟨ra, rc, rs, hrs, hrr, hrc, hrm, hrw⟩ := open_reps g3
        simp only [List.cons.injEq, and_true] at hz hs0 hs2 hrs
        subst hz hs0 hs2 hrs
        exact ⟨⟨s0, z, s2, ra, rc, rs⟩, ⟨by simpa using e0, by simpa using e1, by simpa using e2, by simpa using e3, hrr, hrc⟩, hrm, hsz, hwf, hrw⟩)
    refine ⟨some a, cap, ps, by rw [hrl], ⟨fun e => (by cases e), fun y hy i p hp => ?_⟩, fun e => (by cases e), by omega, fun p hp => ?_, fun p hp => ?_⟩
    · cases hy
      exact (hrp i p hp).1
    · obtain ⟨i, hi⟩ := List.mem_iff_getElem?.1 hp
      exact (hrp i p hi).2.1
    · obtain ⟨i, hi⟩ := List.mem_iff_getElem?.1 hp
      exact (hrp i p hi).2.2
end

end Go.Proofs.Qxb6601940a
