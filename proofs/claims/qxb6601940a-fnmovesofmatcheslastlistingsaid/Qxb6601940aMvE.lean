import Derived.Test.Qxb6601940aMvM
import Derived.Deep.AppendLies
namespace Go.Proofs.Qxb6601940a
open Go.RowKit
set_option linter.unusedVariables false

/-! ### The moves, plainly -/
structure Mv where
  svc : ByteArray
  num : Int
  rep : Int
  fr : ByteArray
  to : ByteArray
def cellsM (m : Mv) : List Value := [.string m.svc, .int .i64 m.num, .int .i64 m.rep, .string m.fr, .string m.to]
noncomputable def mvR (p : Cr) (was : List Rp) (r : Rp) : List Mv :=
  match lastOf (fun x : Rp => x.num = r.num) was with
  | none => []
  | some x => if x.node = r.node then [] else [⟨p.svc, p.num, r.num, x.node, r.node⟩]
noncomputable def mvP (cur : List Cr) (p : Cr) : List Mv :=
  match lastOf (fun c : Cr => c.svc = p.svc ∧ c.num = p.num) cur with
  | none => []
  | some c => p.reps.flatMap (mvR p c.reps)
noncomputable def moves (cur now : List Cr) : List Mv := now.flatMap (mvP cur)

theorem mvR_le (p : Cr) (was : List Rp) (r : Rp) : (mvR p was r).length ≤ 1 := by
  unfold mvR
  split
  · simp
  · split <;> simp
theorem flatMap_le {α β : Type} (f : α → List β) (m : Nat) : ∀ l : List α, (∀ x ∈ l, (f x).length ≤ m) → (l.flatMap f).length ≤ l.length * m
  | [], _ => by simp
  | x :: r, h => by
    have h1 := flatMap_le f m r (fun y hy => h y (by simp [hy]))
    have h2 := h x (by simp)
    rw [List.flatMap_cons, List.length_append, List.length_cons, Nat.succ_mul]
    omega
theorem mvP_le (cur : List Cr) (p : Cr) (h : p.reps.length ≤ 4096) : (mvP cur p).length ≤ 4096 := by
  unfold mvP
  split
  · simp
  · rename_i c _
    have := flatMap_le (mvR p c.reps) 1 p.reps (fun r _ => mvR_le p c.reps r)
    omega
theorem moves_le (cur now : List Cr) (h : ∀ p ∈ now, p.reps.length ≤ 4096) : (moves cur now).length ≤ now.length * 4096 := flatMap_le _ _ _ (fun p hp => mvP_le cur p (h p hp))
theorem mvR_nil (p : Cr) (r : Rp) : mvR p [] r = [] := by simp [mvR, lastOf_nil]
theorem flatMap_nil_of {α β : Type} {f : α → List β} (h : ∀ x, f x = []) (l : List α) : l.flatMap f = [] := by
  rw [List.flatMap_eq_nil_iff]; exact fun x _ => h x

theorem lastOf_map {α β : Type} (q : β → Prop) (f : α → β) (l : List α) : lastOf q (l.map f) = (lastOf (fun x => q (f x)) l).map f := by
  unfold lastOf
  rw [← List.map_reverse, List.find?_map]
  rfl
theorem lastOf_congr {α : Type} {q q' : α → Prop} (h : ∀ x, q x ↔ q' x) (l : List α) : lastOf q l = lastOf q' l := by
  have : q = q' := funext fun x => propext (h x)
  rw [this]

/-! ### What the two maps hold -/
def sliceOf (p : Pt) : Value := .slice p.ra p.reps.length p.rc
noncomputable def f0 (ps : List Pt) (k : Nat) (y : Value) : Option Value := (lastOf (fun p : Pt => keyV p.svc p.num = y) (ps.take k)).map sliceOf
noncomputable def f2 (rs : List Rp) (k : Nat) (y : Value) : Option Value := (lastOf (fun r : Rp => Value.int .i64 r.num = y) (rs.take k)).map (fun r => .string r.node)
theorem f0_zero (ps : List Pt) (y : Value) : f0 ps 0 y = none := by simp [f0, lastOf_nil]
theorem f2_zero (rs : List Rp) (y : Value) : f2 rs 0 y = none := by simp [f2, lastOf_nil]
theorem take_snoc_of {α : Type} {l : List α} {k : Nat} {x : α} (h : l[k]? = some x) : l.take (k + 1) = l.take k ++ [x] := by rw [List.take_add_one, h]; rfl
theorem f0_here {ps : List Pt} {k : Nat} {p : Pt} (h : ps[k]? = some p) : f0 ps (k + 1) (keyV p.svc p.num) = some (sliceOf p) := by
  unfold f0; rw [take_snoc_of h, lastOf_snoc_pos (q := fun q : Pt => keyV q.svc q.num = keyV p.svc p.num) rfl]; rfl
theorem f0_else {ps : List Pt} {k : Nat} {p : Pt} (h : ps[k]? = some p) {y : Value} (hy : y ≠ keyV p.svc p.num) : f0 ps (k + 1) y = f0 ps k y := by
  unfold f0; rw [take_snoc_of h, lastOf_snoc_neg (fun e => hy e.symm)]
theorem f2_here {rs : List Rp} {k : Nat} {r : Rp} (h : rs[k]? = some r) : f2 rs (k + 1) (.int .i64 r.num) = some (.string r.node) := by
  unfold f2; rw [take_snoc_of h, lastOf_snoc_pos (q := fun q : Rp => Value.int .i64 q.num = .int .i64 r.num) rfl]; rfl
theorem f2_else {rs : List Rp} {k : Nat} {r : Rp} (h : rs[k]? = some r) {y : Value} (hy : y ≠ .int .i64 r.num) : f2 rs (k + 1) y = f2 rs k y := by
  unfold f2; rw [take_snoc_of h, lastOf_snoc_neg (fun e => hy e.symm)]
theorem keyV_iff (s s' : ByteArray) (n n' : Int) : keyV s n = keyV s' n' ↔ s = s' ∧ n = n' := by simp [keyV]

/-- What the look-up of a partition says: nothing is listed, or this part is the last that is. -/
theorem look0 (ps : List Pt) (n : Nat) (hl : ps.length = n) (s : ByteArray) (m : Int) (rs : List Rp) :
    (f0 ps n (keyV s m) = none ∧ mvP (ps.map core) ⟨s, m, rs⟩ = []) ∨ ∃ (j : Nat) (p : Pt), ps[j]? = some p ∧ f0 ps n (keyV s m) = some (sliceOf p) ∧ mvP (ps.map core) ⟨s, m, rs⟩ = rs.flatMap (mvR ⟨s, m, rs⟩ p.reps) := by
  unfold f0 mvP
  rw [← hl, List.take_length, lastOf_map, lastOf_congr (q' := fun p : Pt => (core p).svc = s ∧ (core p).num = m) (fun p => by rw [keyV_iff]; rfl)]
  cases h : lastOf (fun p : Pt => (core p).svc = s ∧ (core p).num = m) ps with
  | none => exact .inl ⟨rfl, rfl⟩
  | some p =>
    obtain ⟨_, hm⟩ := lastOf_some h
    obtain ⟨j, hj⟩ := List.mem_iff_getElem?.1 hm
    exact .inr ⟨j, p, hj, rfl, rfl⟩
/-- What the look-up of a replica says. -/
theorem look2 (was : List Rp) (m : Nat) (hl : was.length = m) (p : Cr) (r : Rp) :
    (f2 was m (.int .i64 r.num) = none ∧ mvR p was r = []) ∨ ∃ x : ByteArray, f2 was m (.int .i64 r.num) = some (.string x) ∧ mvR p was r = if x = r.node then [] else [⟨p.svc, p.num, r.num, x, r.node⟩] := by
  unfold f2 mvR
  rw [← hl, List.take_length, lastOf_congr (q' := fun x : Rp => x.num = r.num) (fun x => by simp)]
  cases h : lastOf (fun x : Rp => x.num = r.num) was with
  | none => exact .inl ⟨rfl, rfl⟩
  | some x => exact .inr ⟨x.node, rfl, rfl⟩

theorem info60 : (Try.prog.info? 60).map (fun i => (i.zero, i.size, i.bytes)) = some (some (.agg #[.string ByteArray.empty, .int .i64 0, .int .i64 0, .string ByteArray.empty, .string ByteArray.empty]), 5, 64) := by kernel_rfl

/-- Each key can be a key. -/
def WfP (ps : List Pt) : Prop := ∀ p ∈ ps, p.svc.size ≤ maxLen ∧ (Lit.int .i64 p.num).wf = true ∧ ∀ r ∈ p.reps, (Lit.int .i64 r.num).wf = true

end Go.Proofs.Qxb6601940a
