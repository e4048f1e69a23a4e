import Derived.Test.Qxb6601940aMvE
import Derived.Lib.SlicesS
namespace Go.Proofs.Qxb6601940a
open Go.RowKit
set_option linter.unusedVariables false

/-- None from k on meets q. -/
def After {α : Type} (q : α → Prop) (l : List α) (k : Nat) : Prop := ∀ i x, k ≤ i → l[i]? = some x → ¬ q x
theorem after_end {α : Type} (q : α → Prop) (l : List α) {n : Nat} (hl : l.length = n) : After q l n := by
  intro i x hi hx
  have := (List.getElem?_eq_some_iff.1 hx).1
  omega
theorem After.back {α : Type} {q : α → Prop} {l : List α} {k : Nat} {x : α} (h : After q l (k + 1)) (hx : l[k]? = some x) (hn : ¬ q x) : After q l k := by
  intro i y hi hy
  by_cases e : i = k
  · subst e; rw [hx] at hy; cases hy; exact hn
  · exact h i y (by omega) hy
theorem lastOf_none_of {α : Type} {q : α → Prop} {l : List α} (h : After q l 0) : lastOf q l = none := by
  unfold lastOf
  rw [List.find?_eq_none]
  intro x hx
  obtain ⟨i, hi⟩ := List.mem_iff_getElem?.1 (List.mem_reverse.1 hx)
  simpa using h i x (Nat.zero_le _) hi
theorem lastOf_at {α : Type} {q : α → Prop} {l : List α} {k : Nat} {x : α} (h : After q l (k + 1)) (hx : l[k]? = some x) (hq : q x) : lastOf q l = some x := by
  have e : l = l.take k ++ (x :: l.drop (k + 1)) := by
    obtain ⟨h1, h2⟩ := List.getElem?_eq_some_iff.1 hx
    rw [← h2, ← List.drop_eq_getElem_cons h1, List.take_append_drop]
  have hd : (l.drop (k + 1)).reverse.find? (fun y => @decide (q y) (Classical.propDecidable _)) = none := by
    rw [List.find?_eq_none]
    intro y hy
    obtain ⟨i, hi⟩ := List.mem_iff_getElem?.1 (List.mem_reverse.1 hy)
    rw [List.getElem?_drop] at hi
    simpa using h (k + 1 + i) y (by omega) hi
  unfold lastOf
  rw [e, List.reverse_append, List.reverse_cons, List.append_assoc, List.find?_append, hd]
  simp [hq]

def LastAt {α : Type} (q : α → Prop) (l : List α) (w : World) (e : Ending) (w' : World) : Prop :=
  (e = .returned (.int .i64 (-1)) ∧ w' = w ∧ lastOf q l = none) ∨ ∃ (i : Nat) (x : α), e = .returned (.int .i64 i) ∧ w' = w ∧ l[i]? = some x ∧ lastOf q l = some x

set_option maxHeartbeats 1000000 in
theorem last37_any (a : Option Addr) (n c : Nat) (ps : List Pt) (s : ByteArray) (m : Int) (w : World) (hl : ps.length = n) (hn : n ≤ 4096) (hr : RdP w a ps) :
    Calls Try.prog 37 #[.slice a n c, .string s, .int .i64 m] w (LastAt (fun p : Pt => p.svc = s ∧ p.num = m) ps w) := by
  have HL : Hid (ps.length = n) := hl
  have HE : Hid (After (fun p : Pt => p.svc = s ∧ p.num = m) ps n) := after_end _ _ hl
  clear hl
  go_enter Try.func37, Try.ntmps37
  go_wp2
  go_loop [7] (fun j => ∃ k : Nat, k ≤ n ∧ j = .int .i64 ((k : Int) - 1) ∧ After (fun p : Pt => p.svc = s ∧ p.num = m) ps k) (fun j => (intOf j + 1).toNat)
  case atStart => exact ⟨n, Nat.le_refl _, by go_num, HE.out⟩
  case round =>
    obtain ⟨k, hk, rfl, hA⟩ := hrel
    have HA : Hid (After (fun p : Pt => p.svc = s ∧ p.num = m) ps k) := hA
    clear hA
    cases k with
    | zero =>
      go_wp2
      go_ret
      exact .inl ⟨rfl, rfl, lastOf_none_of HA.out⟩
    | succ k =>
      rw [show (((k + 1 : Nat) : Int) - 1) = (k : Int) by omega]
      obtain ⟨p, hp⟩ := getElem?_lt HL.out hk
      obtain ⟨b, off, ea, c0, c1, c2, c3, r, hc⟩ := hr.at hp
      subst ea
      have HP : Hid (ps[k]? = some p) := hp
      clear hp r hc c2 c3
      by_cases hs : p.svc = s
      · have hsb : (p.svc.toList == s.toList) = true := (Lib.bytes_beq_iff _ _).2 hs
        by_cases hm : p.num = m
        · have hmb : (p.num == m) = true := by simpa using hm
          have HQ : Hid (p.svc = s ∧ p.num = m) := ⟨hs, hm⟩
          clear hs hm
          go_wp2
          go_ret
          exact .inr ⟨k, p, rfl, rfl, HP.out, lastOf_at HA.out HP.out HQ.out⟩
        · have hmb : (p.num == m) = false := by simpa using hm
          have HQ : Hid (¬ (p.svc = s ∧ p.num = m)) := fun h => hm h.2
          clear hs hm
          go_wp2
          go_round
          case rel => exact ⟨k, by omega, by go_num, HA.out.back HP.out HQ.out⟩
          case measure => simp [intOf]
      · have hsb : (p.svc.toList == s.toList) = false := (Lib.bytes_beq_false_iff _ _).2 hs
        have HQ : Hid (¬ (p.svc = s ∧ p.num = m)) := fun h => hs h.1
        clear hs
        go_wp2
        go_round
        case rel => exact ⟨k, by omega, by go_num, HA.out.back HP.out HQ.out⟩
        case measure => simp [intOf]

set_option maxHeartbeats 1000000 in
theorem last38_any (a : Option Addr) (n c : Nat) (rs : List Rp) (m : Int) (w : World) (hl : rs.length = n) (hn : n ≤ 4096) (hr : RdR w a rs) :
    Calls Try.prog 38 #[.slice a n c, .int .i64 m] w (LastAt (fun r : Rp => r.num = m) rs w) := by
  have HL : Hid (rs.length = n) := hl
  have HE : Hid (After (fun r : Rp => r.num = m) rs n) := after_end _ _ hl
  clear hl
  go_enter Try.func38, Try.ntmps38
  go_wp2
  go_loop [5] (fun j => ∃ k : Nat, k ≤ n ∧ j = .int .i64 ((k : Int) - 1) ∧ After (fun r : Rp => r.num = m) rs k) (fun j => (intOf j + 1).toNat)
  case atStart => exact ⟨n, Nat.le_refl _, by go_num, HE.out⟩
  case round =>
    obtain ⟨k, hk, rfl, hA⟩ := hrel
    have HA : Hid (After (fun r : Rp => r.num = m) rs k) := hA
    clear hA
    cases k with
    | zero =>
      go_wp2
      go_ret
      exact .inl ⟨rfl, rfl, lastOf_none_of HA.out⟩
    | succ k =>
      rw [show (((k + 1 : Nat) : Int) - 1) = (k : Int) by omega]
      obtain ⟨p, hp⟩ := getElem?_lt HL.out hk
      obtain ⟨b, off, ea, c0, c1, c2, c3⟩ := hr.at hp
      subst ea
      have HP : Hid (rs[k]? = some p) := hp
      clear hp c1 c2 c3
      by_cases hm : p.num = m
      · have hmb : (p.num == m) = true := by simpa using hm
        have HQ : Hid (p.num = m) := hm
        clear hm
        go_wp2
        go_ret
        exact .inr ⟨k, p, rfl, rfl, HP.out, lastOf_at HA.out HP.out HQ.out⟩
      · have hmb : (p.num == m) = false := by simpa using hm
        have HQ : Hid (¬ p.num = m) := hm
        clear hm
        go_wp2
        go_round
        case rel => exact ⟨k, by omega, by go_num, HA.out.back HP.out HQ.out⟩
        case measure => simp [intOf]

end Go.Proofs.Qxb6601940a
