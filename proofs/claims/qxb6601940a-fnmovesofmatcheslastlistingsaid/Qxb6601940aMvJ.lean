import Derived.Test.Qxb6601940aMvE
import Derived.Lib.SlicesS
import Derived.BigQuiet
namespace Go.Proofs.Qxb6601940a
open Go.RowKit
set_option linter.unusedVariables false

/-- Some truth value comes back, nothing old has turned; if it is true, then p. -/
def SaysK (p : Prop) (w : World) (e : Ending) (w' : World) : Prop := ∃ b, e = .returned (.bool b) ∧ Kept [] w w' ∧ (b = true → p)
theorem SaysK.no {p : Prop} {w w' : World} (h : Kept [] w w') : SaysK p w (.returned (.bool false)) w' := ⟨_, rfl, h, fun h => by cases h⟩
theorem SaysK.yes {p : Prop} {w w' : World} (h : Kept [] w w') (hp : p) : SaysK p w (.returned (.bool true)) w' := ⟨_, rfl, h, fun _ => hp⟩

/-- No two of the first k are alike. -/
def Diff {α : Type} (s : α → α → Prop) (l : List α) (k : Nat) : Prop := ∀ i j p q, i < k → j < i → l[i]? = some p → l[j]? = some q → ¬ s p q
/-- None of the first k is like p. -/
def Unlike {α : Type} (s : α → α → Prop) (l : List α) (p : α) (k : Nat) : Prop := ∀ j q, j < k → l[j]? = some q → ¬ s p q
theorem diff_zero {α : Type} (s : α → α → Prop) (l : List α) : Diff s l 0 := by intro i j p q hi; omega
theorem unlike_zero {α : Type} (s : α → α → Prop) (l : List α) (p : α) : Unlike s l p 0 := by intro j q hj; omega
theorem Diff.next {α : Type} {s : α → α → Prop} {l : List α} {k : Nat} {p : α} (h : Diff s l k) (hp : l[k]? = some p) (hu : Unlike s l p k) : Diff s l (k + 1) := by
  intro i j x y hi hj hx hy
  by_cases e : i = k
  · subst e
    rw [hp] at hx; cases hx
    exact hu j y hj hy
  · exact h i j x y (by omega) hj hx hy
theorem Unlike.next {α : Type} {s : α → α → Prop} {l : List α} {k : Nat} {p q : α} (h : Unlike s l p k) (hq : l[k]? = some q) (hn : ¬ s p q) : Unlike s l p (k + 1) := by
  intro j y hj hy
  by_cases e : j = k
  · subst e
    rw [hq] at hy; cases hy
    exact hn
  · exact h j y (by omega) hy
def likeP (p q : Pt) : Prop := p.svc = q.svc ∧ p.num = q.num
def likeR (p q : Rp) : Prop := p.num = q.num
/-- The replicas of each of the first k parts bear different numbers. -/
def Nums (ps : List Pt) (k : Nat) : Prop := ∀ i p, i < k → ps[i]? = some p → Diff likeR p.reps p.reps.length
theorem nums_zero (ps : List Pt) : Nums ps 0 := by intro i p hi; omega
theorem Nums.next {ps : List Pt} {k : Nat} {p : Pt} (h : Nums ps k) (hp : ps[k]? = some p) (hd : Diff likeR p.reps p.reps.length) : Nums ps (k + 1) := by
  intro i x hi hx
  by_cases e : i = k
  · subst e; rw [hp] at hx; cases hx; exact hd
  · exact h i x (by omega) hx
/-- A listing that names each partition once, and each replica's number once in a partition. -/
def Dist (ps : List Pt) : Prop := Diff likeP ps ps.length ∧ Nums ps ps.length

set_option maxHeartbeats 4000000 in
set_option maxRecDepth 100000 in
theorem dist_any (a : Option Addr) (n c : Nat) (ps : List Pt) (w : World) (hl : ps.length = n) (hr : RdP w a ps) (hf : Few ps) :
    Calls Try.prog 20 #[.slice a n c] w (SaysK (Dist ps) w) := by
  have HL : Hid (ps.length = n) := hl
  have HF : Hid (Few ps) := hf
  have hn : n ≤ 4096 := by have := hf.1; omega
  clear hl hf
  go_enter Try.func20, Try.ntmps20
  go_wp2
  go_loopw [3] (fun i wr => ∃ k : Nat, k ≤ n ∧ i = .int .i64 k ∧ Diff likeP ps k ∧ Nums ps k ∧ Kept [] w wr) (fun i _ => n - (intOf i).toNat)
  case atStart => exact ⟨0, Nat.zero_le _, rfl, diff_zero _ _, nums_zero _, Kept.refl _ _⟩
  case round =>
    obtain ⟨k, hk, rfl, hD, hN, hkept⟩ := hrel
    by_cases hlt : k < n
    · obtain ⟨p, hp⟩ := getElem?_lt HL.out hlt
      have HP : Hid (ps[k]? = some p) := hp
      have hfw := HF.out.2 p (List.mem_of_getElem? hp)
      clear hp
      go_wp2
      go_loopw [4] (fun j wr => ∃ q : Nat, q ≤ k ∧ j = .int .i64 q ∧ Unlike likeP ps p q ∧ Kept [] w wr) (fun j _ => k - (intOf j).toNat)
      case atStart => exact ⟨0, Nat.zero_le _, rfl, unlike_zero _ _ _, hkept⟩
      case round =>
        clear hkept
        obtain ⟨q, hq, rfl, hU, hkept⟩ := hrel
        obtain ⟨b, off, ea, c0, c1, c2, c3, r, hc⟩ := (hr.kept hkept).at HP.out
        subst ea
        by_cases hlt2 : q < k
        · obtain ⟨x, hx⟩ := getElem?_lt HL.out (Nat.lt_trans hlt2 hlt)
          obtain ⟨b', off', ea', e0, e1, e2, e3, r', hc'⟩ := (hr.kept hkept).at hx
          cases ea'
          have HX : Hid (ps[q]? = some x) := hx
          have i1 : (k : Int) < (n : Int) := by omega
          have i2 : (0 : Int) ≤ (k : Int) := by omega
          have i3 : (q : Int) < (n : Int) := by omega
          have i4 : (0 : Int) ≤ (q : Int) := by omega
          clear hx r r' hc hc' c2 c3 e2 e3
          by_cases hs : p.svc = x.svc
          · have hsb : (p.svc.toList == x.svc.toList) = true := (Lib.bytes_beq_iff _ _).2 hs
            by_cases hm : p.num = x.num
            · have hmb : (p.num == x.num) = true := by simpa using hm
              have HS : Hid (p.svc = x.svc ∧ p.num = x.num) := ⟨hs, hm⟩
              clear hs hm
              go_wp2
              go_quiet (fail)
              go_wp2
              go_ret
              exact SaysK.no (hkept.next (Kept.drewN _ _))
            · have hmb : (p.num == x.num) = false := by simpa using hm
              have HS : Hid (¬ likeP p x) := fun h => hm h.2
              clear hs hm
              go_wp2
              go_quiet (fail)
              go_wp2
              go_roundw
              case rel => exact ⟨q + 1, by omega, by go_num, hU.next HX.out HS.out, hkept.next (Kept.drewN _ _)⟩
              case measure => simp [intOf]; omega
          · have hsb : (p.svc.toList == x.svc.toList) = false := (Lib.bytes_beq_false_iff _ _).2 hs
            have HS : Hid (¬ likeP p x) := fun h => hs h.1
            clear hs
            go_wp2
            go_quiet (fail)
            go_wp2
            go_roundw
            case rel => exact ⟨q + 1, by omega, by go_num, hU.next HX.out HS.out, hkept.next (Kept.drewN _ _)⟩
            case measure => simp [intOf]; omega
        · obtain rfl : q = k := by omega
          have hD2 := hD.next HP.out hU
          clear hD hU c0 c1 c2
          go_wp2
          obtain ⟨svc, num, rule, ra, rc, reps⟩ := p
          simp only at c3 r hfw
          clear hc
          go_loopw [6] (fun i wr => ∃ z : Nat, z ≤ reps.length ∧ i = .int .i64 z ∧ Diff likeR reps z ∧ Kept [] w wr) (fun i _ => reps.length - (intOf i).toNat)
          case atStart => exact ⟨0, Nat.zero_le _, rfl, diff_zero _ _, hkept⟩
          case round =>
            clear hkept
            obtain ⟨z, hz, rfl, hZ, hkept⟩ := hrel
            by_cases hlt3 : z < reps.length
            · obtain ⟨r1, hr1⟩ := getElem?_lt rfl hlt3
              have HR1 : Hid (reps[z]? = some r1) := hr1
              clear hr1
              go_wp2
              go_loopw [7] (fun j wr => ∃ y : Nat, y ≤ z ∧ j = .int .i64 y ∧ Unlike likeR reps r1 y ∧ Kept [] w wr) (fun j _ => z - (intOf j).toNat)
              case atStart => exact ⟨0, Nat.zero_le _, rfl, unlike_zero _ _ _, hkept⟩
              case round =>
                clear hkept
                obtain ⟨y, hy, rfl, hU, hkept⟩ := hrel
                by_cases hlt4 : y < z
                · obtain ⟨r2, hr2⟩ := getElem?_lt rfl (Nat.lt_trans hlt4 hlt3)
                  obtain ⟨_, _, eb, _, _, _, _, rr, _⟩ := (hr.kept hkept).at HP.out
                  clear eb
                  obtain ⟨b1, off1, e1, d0, _, _, _⟩ := rr.at HR1.out
                  simp only at e1
                  subst e1
                  obtain ⟨b2, off2, e2, f0, _, _, _⟩ := rr.at hr2
                  cases e2
                  have HR2 : Hid (reps[y]? = some r2) := hr2
                  have i1 : (z : Int) < (reps.length : Int) := by omega
                  have i2 : (0 : Int) ≤ (z : Int) := by omega
                  have i3 : (y : Int) < (reps.length : Int) := by omega
                  have i4 : (0 : Int) ≤ (y : Int) := by omega
                  clear hr2 rr r
                  by_cases hm : r1.num = r2.num
                  · have hmb : (r1.num == r2.num) = true := by simpa using hm
                    clear hm
                    go_wp2
                    go_quiet (fail)
                    go_wp2
                    go_ret
                    exact SaysK.no (hkept.next (Kept.drewN _ _))
                  · have hmb : (r1.num == r2.num) = false := by simpa using hm
                    have HS : Hid (¬ likeR r1 r2) := hm
                    clear hm
                    go_wp2
                    go_quiet (fail)
                    go_wp2
                    go_roundw
                    case rel => exact ⟨y + 1, by omega, by go_num, hU.next HR2.out HS.out, hkept.next (Kept.drewN _ _)⟩
                    case measure => simp [intOf]; omega
                · obtain rfl : y = z := by omega
                  have hZ2 := hZ.next HR1.out hU
                  clear hZ hU
                  go_wp2
                  go_roundw
                  case rel => exact ⟨y + 1, by omega, by go_num, hZ2, hkept⟩
                  case measure => simp [intOf]; omega
            · obtain rfl : z = reps.length := by omega
              have hN2 := hN.next HP.out hZ
              clear hN hZ
              go_wp2
              go_roundw
              case rel => exact ⟨q + 1, by omega, by go_num, hD2, hN2, hkept⟩
              case measure => simp [intOf]; omega
    · obtain rfl : k = n := by omega
      go_wp2
      go_ret
      exact SaysK.yes hkept ⟨by rw [HL.out]; exact hD, by rw [HL.out]; exact hN⟩

end Go.Proofs.Qxb6601940a
