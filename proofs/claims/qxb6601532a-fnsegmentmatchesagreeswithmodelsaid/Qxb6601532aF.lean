import Derived.Test.Qxb6601532aE
namespace Go.Proofs.Qxb6601532a
open Go.RowKit
set_option linter.unusedVariables false

/-- The tokens that the plain data say. -/
def toks (n : Nat) (st S : Nat → Bool) : List Pl.Tok := (List.range n).map fun i => if st i = true then none else some fun b => S (i * 256 + b.toNat)
theorem toks_length (n : Nat) (st S : Nat → Bool) : (toks n st S).length = n := by simp [toks]
theorem toks_star {n : Nat} {st S : Nat → Bool} {i : Nat} (hi : i < n) (hs : st i = true) : (toks n st S)[i]? = some none := by simp [toks, hi, hs]
theorem toks_set {n : Nat} {st S : Nat → Bool} {i : Nat} (hi : i < n) (hs : st i = false) : (toks n st S)[i]? = some (some fun b => S (i * 256 + b.toNat)) := by simp [toks, hi, hs]

theorem hide {p : Prop} (h : p) : Hid p := h
theorem unhide {p : Prop} (h : Hid p) : p := h

def stI : Option (Nat × Nat) → Int
  | none => -1
  | some (s, _) => s
def enI : Option (Nat × Nat) → Int
  | none => 0
  | some (_, e) => e

theorem byte_at (s : ByteArray) (j : Nat) (h : j < s.size) : s.data.toList[j]? = some (s[j]) := by
  rw [List.getElem?_eq_getElem (by simpa using h)]; rfl

set_option maxHeartbeats 1000000 in
theorem matches_any (sb gt n : Nat) (st S : Nat → Bool) (s : ByteArray) (w : World) (hn : n ≤ 4096) (hs : s.size ≤ 1048576)
    (hseg : w.cell? ⟨sb, 1, none⟩ = some (.slice (some ⟨gt, 0, none⟩) n n)) (htok : Toks w gt n n st S) :
    Calls Try.prog 47 #[.pointer (some ⟨sb, 0, none⟩), .string s] w fun e w' => e = .returned (.bool (Pl.R (toks n st S) s.data.toList 0 0)) ∧ Kept [] w w' := by
  have hsb := World.block_lt_of_cell? _ _ hseg
  have HSEG : Hid (w.cell? ⟨sb, 1, none⟩ = some (.slice (some ⟨gt, 0, none⟩) n n)) := hseg
  clear hseg
  go_enter Try.func47, Try.ntmps47
  go_wp2
  go_loopw [5, 6, 7, 8] (fun nx at_ sr en wr => ∃ (x j : Nat) (sto : Option (Nat × Nat)), nx = .int .i64 x ∧ at_ = .int .i64 j ∧ sr = .int .i64 (stI sto) ∧ en = .int .i64 (enI sto) ∧ Pl.Inv (toks n st S) s.data.toList x j sto ∧ Kept [] w wr) (fun nx _ sr en _ => Pl.mu n s.size (intOf sr + 1).toNat (intOf en).toNat (intOf nx).toNat)
  case atStart => exact ⟨0, 0, none, rfl, rfl, rfl, rfl, Pl.inv_start _ _, Kept.refl _ _⟩
  case round =>
    obtain ⟨x, j, sto, rfl, rfl, rfl, rfl, hinv, hkept⟩ := hrel
    have hx : x ≤ n := by have := hinv.1; rwa [toks_length] at this
    have hj : j ≤ s.size := by have := hinv.2.1; simpa using this
    have c1 : wr.cell? ⟨sb, 1, none⟩ = some (.slice (some ⟨gt, 0, none⟩) n n) := (hkept.cell (a := ⟨sb, 1, none⟩) hsb (by simp)).trans HSEG.out
    have HI : Hid (Pl.Inv (toks n st S) s.data.toList x j sto) := hinv
    have HT : Hid (Toks wr gt n n st S) := htok.kept hkept
    clear hinv
    by_cases hlt : x < n
    · by_cases hst : st x = true
      · have cs := HT.out.star hlt
        rw [hst] at cs
        have hm : Pl.mu n s.size ((x : Int) + 1).toNat (j : Int).toNat ((x : Int) + 1).toNat < Pl.mu n s.size (stI sto + 1).toNat (enI sto).toNat (x : Int).toNat := by
          refine Pl.mu_star ?_ (by omega) (by omega)
          cases sto with
          | none => simp [stI]
          | some se =>
            obtain ⟨s0, e0⟩ := se
            have := (HI.out.2.2.2 s0 e0 rfl).1
            simp [stI]; omega
        have HM := hm
        have HM : Hid (_ < _) := hm
        clear hm
        go_wp2
        go_roundw
        case rel => exact ⟨x + 1, j, some (x, j), by go_num, rfl, rfl, rfl, Pl.inv_star _ _ HI.out (toks_star hlt hst), hkept⟩
        case measure => simp only [intOf]; exact HM.out
      · have hsf : st x = false := by simpa using hst
        have cs := HT.out.star hlt
        rw [hsf] at cs
        obtain ⟨pb, cp, cset⟩ := HT.out.set hlt hsf
        by_cases hje : j = s.size
        · subst hje
          have hR : Pl.R (toks n st S) s.data.toList 0 0 = false := by
            have h := HI.out
            rw [show s.size = s.data.toList.length from by simp] at h
            rw [Pl.inv_end _ _ h (.inr ⟨_, toks_set hlt hsf⟩), toks_length]
            exact decide_eq_false (by omega)
          have hne : ((x : Int) == (n : Int)) = false := by simp; omega
          have HRR := hide hR
          clear hR cset
          go_wp2
          go_ret
          exact ⟨by rw [unhide HRR]; rfl, hkept⟩
        · have hjl : j < s.size := by omega
          have hne : ((j : Int) == (s.size : Int)) = false := by simp; omega
          have hb := byte_at s j hjl
          have HB : Hid (s.data.toList[j]? = some (s[j])) := hb
          have hlt256 : s[j].toNat < 256 := UInt8.toNat_lt _
          have cb := cset s[j].toNat hlt256
          have y1 : (0 : Int) ≤ (x : Int) := by omega
          have y2 : (x : Int) < (n : Int) := by omega
          have y3 : (0 : Int) ≤ (j : Int) := by omega
          have y4 : (j : Int) < (s.size : Int) := by omega
          clear hb cset hje
          by_cases hmt : S (x * 256 + s[j].toNat) = true
          · rw [hmt] at cb
            have HINV : Hid (Pl.Inv (toks n st S) s.data.toList (x + 1) (j + 1) sto) := Pl.inv_match _ _ HI.out (toks_set hlt hsf) HB.out hmt
            have HM : Hid (Pl.mu n s.size (stI sto + 1).toNat (enI sto).toNat (x + 1) < Pl.mu n s.size (stI sto + 1).toNat (enI sto).toNat x) := Pl.mu_next hx
            clear hmt
            go_wp2
            go_quiet (fail)
            go_wp2
            go_roundw
            case rel => exact ⟨x + 1, j + 1, sto, by go_num, by go_num, rfl, rfl, HINV.out, hkept.next (Kept.drewN _ _)⟩
            case measure =>
              simp only [intOf]
              rw [show ((x : Int) + 1).toNat = x + 1 from by omega, Int.toNat_natCast]
              exact HM.out
          · have hmf : S (x * 256 + s[j].toNat) = false := by simpa using hmt
            rw [hmf] at cb
            have HF : Hid (Pl.Fails (toks n st S) s.data.toList x j) := .inr ⟨_, _, toks_set hlt hsf, HB.out, hmf⟩
            clear hmt hmf
            cases sto with
            | none =>
              have hR : Pl.R (toks n st S) s.data.toList 0 0 = false := Pl.inv_fail_none _ _ HI.out (by simpa using hjl) HF.out
              have HRR := hide hR
              clear hR
              simp only [stI, enI]
              go_wp2
              go_quiet (fail)
              go_wp2
              go_ret
              exact ⟨by rw [unhide HRR]; rfl, hkept.next (Kept.drewN _ _)⟩
            | some se =>
              obtain ⟨s0, e0⟩ := se
              have hse := HI.out.2.2.2 s0 e0 rfl
              have hs0 := hse.1
              have he0 := hse.2.1
              have HINV : Hid (Pl.Inv (toks n st S) s.data.toList (s0 + 1) (e0 + 1) (some (s0, e0 + 1))) := Pl.inv_fail_some _ _ HI.out (by simpa using hjl) HF.out
              have HM : Hid (Pl.mu n s.size ((s0 : Int) + 1).toNat (e0 + 1) (s0 + 1) < Pl.mu n s.size ((s0 : Int) + 1).toNat e0 x) := Pl.mu_end (by omega) hx
              clear hse
              simp only [stI, enI]
              go_wp2
              go_quiet (fail)
              go_wp2
              go_roundw
              case rel => exact ⟨s0 + 1, e0 + 1, some (s0, e0 + 1), by go_num, by go_num, rfl, by go_num, HINV.out, hkept.next (Kept.drewN _ _)⟩
              case measure =>
                simp only [intOf]
                rw [show ((s0 : Int) + 1).toNat = s0 + 1 from by omega, show ((e0 : Int) + 1).toNat = e0 + 1 from by omega, Int.toNat_natCast, Int.toNat_natCast]
                have h := HM.out
                rw [show ((s0 : Int) + 1).toNat = s0 + 1 from by omega] at h
                exact h
    · obtain rfl : x = n := by omega
      have hd : decide ((x : Int) < (x : Int)) = false := by simp
      by_cases hje : j = s.size
      · subst hje
        have hR : Pl.R (toks x st S) s.data.toList 0 0 = true := by
          have h := HI.out
          rw [show s.size = s.data.toList.length from by simp] at h
          rw [Pl.inv_end _ _ h (.inl (toks_length _ _ _).symm), toks_length]
          exact decide_eq_true rfl
        have HRR := hide hR
        clear hR
        go_wp2
        go_ret
        exact ⟨by rw [unhide HRR]; rfl, hkept⟩
      · have hjl : j < s.size := by omega
        have hne : ((j : Int) == (s.size : Int)) = false := by simp; omega
        have HF : Hid (Pl.Fails (toks x st S) s.data.toList x j) := .inl (toks_length _ _ _).symm
        cases sto with
        | none =>
          have hR : Pl.R (toks x st S) s.data.toList 0 0 = false := Pl.inv_fail_none _ _ HI.out (by simpa using hjl) HF.out
          have HRR := hide hR
          clear hR
          simp only [stI, enI]
          go_wp2
          go_quiet (fail)
          go_wp2
          go_ret
          exact ⟨by rw [unhide HRR]; rfl, hkept.next (Kept.drewN _ _)⟩
        | some se =>
          obtain ⟨s0, e0⟩ := se
          have hse := HI.out.2.2.2 s0 e0 rfl
          have hs0 := hse.1
          have he0 := hse.2.1
          have HINV : Hid (Pl.Inv (toks x st S) s.data.toList (s0 + 1) (e0 + 1) (some (s0, e0 + 1))) := Pl.inv_fail_some _ _ HI.out (by simpa using hjl) HF.out
          have HM : Hid (Pl.mu x s.size (s0 + 1) (e0 + 1) (s0 + 1) < Pl.mu x s.size (s0 + 1) e0 x) := Pl.mu_end (by omega) hx
          clear hse
          simp only [stI, enI]
          go_wp2
          go_quiet (fail)
          go_wp2
          go_roundw
          case rel => exact ⟨s0 + 1, e0 + 1, some (s0, e0 + 1), by go_num, by go_num, rfl, by go_num, HINV.out, hkept.next (Kept.drewN _ _)⟩
          case measure =>
            simp only [intOf]
            rw [show ((s0 : Int) + 1).toNat = s0 + 1 from by omega, show ((e0 : Int) + 1).toNat = e0 + 1 from by omega, Int.toNat_natCast, Int.toNat_natCast]
            exact HM.out

end Go.Proofs.Qxb6601532a
