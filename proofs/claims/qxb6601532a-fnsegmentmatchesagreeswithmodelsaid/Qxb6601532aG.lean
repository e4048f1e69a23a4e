import Derived.Test.Qxb6601532aF
namespace Go.Proofs.Qxb6601532a
open Go.RowKit
set_option linter.unusedVariables false

/-- A row of the table: whether the tokens from k on match the bytes from each place on. -/
def rowOf (ts : List Pl.Tok) (bs : List UInt8) (N k : Nat) : List Bool := (List.range (N + 1)).map fun j => Pl.R ts bs k j
theorem rowOf_at (ts : List Pl.Tok) (bs : List UInt8) (N k j : Nat) (h : j ≤ N) : (rowOf ts bs N k).getD j false = Pl.R ts bs k j := by
  simp [rowOf, List.getD, Nat.lt_succ_of_le h]
theorem rowOf_length (ts : List Pl.Tok) (bs : List UInt8) (N k : Nat) : (rowOf ts bs N k).length = N + 1 := by simp [rowOf]
/-- A list that agrees with a row at every place is that row. -/
theorem rowOf_of {ts : List Pl.Tok} {bs : List UInt8} {N k : Nat} {l : List Bool} (hl : l.length = N + 1) (h : ∀ p, p ≤ N → l.getD p false = Pl.R ts bs k p) : l = rowOf ts bs N k := by
  apply List.ext_getElem
  · rw [hl, rowOf_length]
  · intro p h1 h2
    have := h p (by omega)
    rw [← rowOf_at ts bs N k p (by omega)] at this
    simpa [List.getD, h1, h2] using this
theorem set_from {l : List Bool} {N m : Nat} {f : Nat → Bool} (hl : l.length = N + 1) (hm : m ≤ N) (h : ∀ p, m + 1 ≤ p → p ≤ N → l.getD p false = f p) {z : Bool} (hz : z = f m) : ∀ p, m ≤ p → p ≤ N → (l.set m z).getD p false = f p := by
  intro p h1 h2
  by_cases e : p = m
  · subst e
    simp [List.getD, show p < l.length by omega, hz]
  · have := h p (by omega) h2
    simp only [List.getD] at this ⊢
    rw [List.getElem?_set_ne (by omega)]
    exact this

/-- The two rows of the table. -/
def Two (w : World) (B N ga gb : Nat) (l m : List Bool) : Prop :=
  OwnB w B (.slice (some ⟨ga, 0, none⟩) (N + 1) (N + 1)) (N + 1) l ∧ OwnB w B (.slice (some ⟨gb, 0, none⟩) (N + 1) (N + 1)) (N + 1) m ∧ ga ≠ gb
theorem Two.swap {w : World} {B N ga gb : Nat} {l m : List Bool} (h : Two w B N ga gb l m) : Two w B N gb ga m l := ⟨h.2.1, h.1, fun e => h.2.2 e.symm⟩
theorem Two.store {w : World} {B N ga gb : Nat} {l m : List Bool} (h : Two w B N ga gb l m) (j : Nat) (z : Bool) :
    Two (w.setCell ⟨gb, j, none⟩ (.bool z)) B N ga gb l (m.set j z) ∧ Kept [some gb] w (w.setCell ⟨gb, j, none⟩ (.bool z)) := by
  have h1 := h.2.1.store j z
  refine ⟨⟨h.1.kept h1.2 ?_, h1.1, h.2.2⟩, h1.2⟩
  intro g hg hm
  simp [Value.ownBlock] at hg hm
  exact h.2.2 (by omega)
theorem Two.kept0 {w w' : World} {B N ga gb : Nat} {l m : List Bool} (h : Two w B N ga gb l m) (hk : Kept [] w w') : Two w' B N ga gb l m := ⟨h.1.kept0 hk, h.2.1.kept0 hk, h.2.2⟩
theorem Two.drew {w : World} {B N ga gb : Nat} {l m : List Bool} (h : Two w B N ga gb l m) : Two w.drew B N ga gb l m := h
/-- A store into the second row keeps what was there before the rows were made. -/
theorem Two.keptB {w0 w : World} {N ga gb : Nat} {l m : List Bool} (h : Two w w0.heap.size N ga gb l m) (hk : Kept [] w0 w) (j : Nat) (z : Bool) : Kept [] w0 (w.setCell ⟨gb, j, none⟩ (.bool z)) :=
  hk.trans (h.store j z).2 (by
    intro k hk2 hlt
    have := (h.2.1.lt gb rfl).1
    simp at hk2
    omega)
theorem row_start (ts : List Pl.Tok) (bs : List UInt8) (N : Nat) (hN : bs.length = N) : (List.replicate (N + 1) false).set N true = rowOf ts bs N ts.length := by
  refine rowOf_of (by simp) ?_
  intro p hp
  rw [Pl.R_end, hN]
  by_cases e : p = N
  · subst e; simp [List.getD]
  · have hne : ¬ N ≤ p := by omega
    rw [decide_eq_false hne, List.getD, List.getElem?_set_ne (by omega), List.getElem?_replicate, if_pos (by omega)]
    rfl

set_option maxHeartbeats 2000000 in
theorem model_any (a0 a1 : Option Addr) (n c0 c1 : Nat) (bs : List Bool) (S : Nat → Bool) (s : ByteArray) (w : World) (B : Nat) (hn : n ≤ 4096) (hs : s.size ≤ 1048576) (hB : B ≤ w.heap.size)
    (h0 : OwnB w B (.slice a0 n c0) n bs) (h1 : OwnS w B (.slice a1 n c1) n S) (st : Nat → Bool) (HSTE : Hid (∀ i, st i = bs.getD i false)) :
    Calls Try.prog 16 #[.slice a0 n c0, .slice a1 n c1, .string s] w fun e w' => e = .returned (.bool (Pl.R (toks n st S) s.data.toList 0 0)) ∧ Kept [] w w' := by
  obtain ⟨i4, hi, hz0, hz1, hz2⟩ := info_parts Try.info4
  go_enter Try.func16, Try.ntmps16
  go_wp2_with (first
    | (at_make; refine wpList_make_full _ rfl (.tmp 16) (.tmp 16) 22 rfl w.heap.size 4 i4 (.bool false) 1 Try.underlying22 hi hz0 hz1 _ _ _ _ (s.size + 1) rfl rfl (by omega) (by omega) (by rw [hz2]; omega) (by unfold maxLen; omega) (Nat.le_refl _) ?_; intro w1 hown1 hgrow1; have s1 := hgrow1.size)
    | (at_make; refine wpList_make_full _ rfl (.tmp 19) (.tmp 19) 22 rfl w.heap.size 4 i4 (.bool false) 1 Try.underlying22 hi hz0 hz1 _ _ _ _ (s.size + 1) rfl rfl (by omega) (by omega) (by rw [hz2]; omega) (by unfold maxLen; omega) s1 ?_; intro w2 hown2 hgrow2; have o1 := (ownB_made2 hown1).kept0 (Kept.ofNew hgrow2); have o2 := ownB_made2 hown2; have e1 := o1.cell (Nat.lt_succ_self s.size); have f1 := o1.fr s.size; have st1 := o1.store s.size true; have K2 : Kept [] w w2 := (Kept.ofNew hgrow1).next (Kept.ofNew hgrow2); have s2 := hgrow2.size; have l1 := (o1.lt w.heap.size rfl).2; have l2 := (o2.lt w1.heap.size rfl).2; have lw := ((ownB_made2 hown1).lt w.heap.size rfl).2; have HST : Hid (_ ∧ _) := st1; have HO2 : Hid (OwnB _ _ _ _ _) := o2; clear hown1 hown2 hgrow1 hgrow2 st1 o2))
  have hbl : s.data.toList.length = s.size := by simp
  have HBL := hide hbl
  have T0 : Two (w2.setCell ⟨w.heap.size, s.size, none⟩ (.bool true)) w.heap.size s.size w.heap.size w1.heap.size (rowOf (toks n st S) s.data.toList s.size n) (List.replicate (s.size + 1) false) := by
    refine ⟨?_, HO2.out.kept HST.out.2 ?_, by omega⟩
    · have h := HST.out.1
      rw [row_start (toks n st S) s.data.toList s.size hbl, toks_length] at h
      exact h
    · intro g hg hm
      simp [Value.ownBlock] at hg hm
      omega
  have K3 : Kept [] w (w2.setCell ⟨w.heap.size, s.size, none⟩ (.bool true)) := K2.trans HST.out.2 (by intro k hk hlt; simp at hk; omega)
  have HTS := hide (toks_length n st S)
  obtain ⟨ts, hts⟩ : ∃ ts, ts = toks n st S := ⟨_, rfl⟩
  rw [← hts] at T0 HTS
  have HTE := hide hts
  clear hts HST HO2 K2 o1 e1 f1 hbl
  generalize w2.setCell ⟨w.heap.size, s.size, none⟩ (.bool true) = w3 at *
  obtain ⟨g1, hg1⟩ : ∃ g1, g1 = w1.heap.size := ⟨_, rfl⟩
  rw [← hg1] at T0 ⊢
  clear hg1 l1 l2 lw s1 s2
  go_loopw [8, 9, 10] (fun nv cv i wr => ∃ (k ga gb : Nat) (m : List Bool), k ≤ n ∧ i = .int .i64 ((k : Int) - 1) ∧ nv = .slice (some ⟨ga, 0, none⟩) (s.size + 1) (s.size + 1) ∧ cv = .slice (some ⟨gb, 0, none⟩) (s.size + 1) (s.size + 1) ∧ Two wr w.heap.size s.size ga gb (rowOf ts s.data.toList s.size k) m ∧ Kept [] w wr) (fun _ _ i _ => (intOf i + 1).toNat)
  case atStart => exact ⟨n, _, _, _, Nat.le_refl _, rfl, rfl, rfl, T0, K3⟩
  case round =>
    clear T0 K3
    obtain ⟨k, ga, gb, m, hk, rfl, rfl, rfl, htwo, hkept⟩ := hrel
    obtain ⟨wo, rfl⟩ : ∃ wo : World, wo = wr := ⟨_, rfl⟩
    cases k with
    | zero =>
      have e0 := htwo.1.cell (j := 0) (by omega)
      rw [rowOf_at _ _ _ _ _ (Nat.zero_le _)] at e0
      have HE := hide (rfl : Pl.R ts s.data.toList 0 0 = Pl.R ts s.data.toList 0 0)
      obtain ⟨rr, hrr⟩ : ∃ rr, rr = Pl.R ts s.data.toList 0 0 := ⟨_, rfl⟩
      rw [← hrr] at e0
      have HRR := hide hrr
      clear hrr
      go_wp2
      go_ret
      exact ⟨by rw [← unhide HTE, ← unhide HRR]; rfl, hkept⟩
    | succ k =>
      rw [show (((k + 1 : Nat) : Int) - 1) = (k : Int) from by omega]
      obtain ⟨g0, c0', hv0, _⟩ := (h0.kept0 hkept).pos (by omega)
      simp only [Value.slice.injEq] at hv0
      obtain ⟨rfl, _, rfl⟩ := hv0
      have e0 := (h0.kept0 hkept).cell (show k < n by omega)
      have hlN : s.size < s.size + 1 := by omega
      by_cases hst : bs.getD k false = true
      · rw [hst] at e0
        have hs1 : ts[k]? = some none := by rw [unhide HTE]; exact toks_star (by omega) (by rw [HSTE.out]; exact hst)
        have HS1 := hide hs1
        have en := htwo.1.cell hlN
        rw [rowOf_at _ _ _ _ _ (Nat.le_refl _)] at en
        have ec := htwo.2.1.cell hlN
        have fc := htwo.2.1.fr s.size
        have sto := htwo.store s.size (Pl.R ts s.data.toList (k + 1) s.size)
        have kb := htwo.keptB hkept s.size (Pl.R ts s.data.toList (k + 1) s.size)
        have hml := htwo.2.1.len
        have hlast : ∀ p, s.size ≤ p → p ≤ s.size → (m.set s.size (Pl.R ts s.data.toList (k + 1) s.size)).getD p false = Pl.R ts s.data.toList k p := by
          obtain ⟨hlt1, hn1⟩ := List.getElem?_eq_some_iff.1 hs1
          refine set_from hml (Nat.le_refl _) (fun p h1 h2 => by omega) ?_
          rw [Pl.R_star_end ts s.data.toList hlt1 hn1 (by rw [unhide HBL]; exact Nat.le_refl _)]
        have HST := hide (And.intro sto.1 (And.intro kb hlast))
        clear sto kb hlast hml hs1 hst
        generalize Pl.R ts s.data.toList (k + 1) s.size = zN at *
        go_wp2
        go_loopw [11] (fun i wr => ∃ (q : Nat) (l : List Bool), q ≤ s.size ∧ i = .int .i64 ((q : Int) - 1) ∧ Two wr w.heap.size s.size ga gb (rowOf ts s.data.toList s.size (k + 1)) l ∧ Kept [] w wr ∧ (∀ p, q ≤ p → p ≤ s.size → l.getD p false = Pl.R ts s.data.toList k p)) (fun i _ => (intOf i + 1).toNat)
        case atStart => exact ⟨s.size, _, Nat.le_refl _, rfl, HST.out.1, HST.out.2.1, HST.out.2.2⟩
        case round =>
          clear HST en ec fc e0
          obtain ⟨q, l, hq, rfl, htw, hkp, hagree⟩ := hrel
          have HAG := hide hagree
          clear hagree
          have hll := htw.2.1.len
          cases q with
          | zero =>
            have el : l = rowOf ts s.data.toList s.size k := rowOf_of hll (fun p hp => HAG.out p (Nat.zero_le _) hp)
            rw [el] at htw
            clear el
            go_wp2
            go_roundw
            case rel => exact ⟨k, gb, ga, _, by omega, by go_num, rfl, rfl, htw.swap, hkp⟩
            case measure => simp [intOf]
          | succ q =>
            rw [show (((q + 1 : Nat) : Int) - 1) = (q : Int) from by omega]
            obtain ⟨hlt1, hn1⟩ := List.getElem?_eq_some_iff.1 HS1.out
            have hstep := Pl.R_star_step ts s.data.toList hlt1 hn1 (j := q) (by rw [unhide HBL]; omega)
            have en := htw.1.cell (show q < s.size + 1 by omega)
            rw [rowOf_at _ _ _ _ _ (by omega)] at en
            have ec := htw.2.1.cell (show q < s.size + 1 by omega)
            have fc := htw.2.1.fr q
            have ec1 := htw.2.1.cell (show q + 1 < s.size + 1 by omega)
            rw [HAG.out (q + 1) (Nat.le_refl _) (by omega)] at ec1
            have sto := htw.store q (Pl.R ts s.data.toList k q)
            have kb := htw.keptB hkp q (Pl.R ts s.data.toList k q)
            have hag2 := set_from hll (show q ≤ s.size by omega) (fun p h1 h2 => HAG.out p h1 h2) (z := Pl.R ts s.data.toList k q) rfl
            rw [hstep] at sto kb hag2
            have HST := hide (And.intro sto.1 (And.intro kb hag2))
            clear sto kb hag2 hstep hlt1 hn1 htw hkp HAG
            generalize Pl.R ts s.data.toList (k + 1) q = z1 at *
            generalize Pl.R ts s.data.toList k (q + 1) = z2 at *
            cases z1
            · go_wp2
              go_roundw
              case rel => exact ⟨q, _, by omega, by go_num, HST.out.1, HST.out.2.1, HST.out.2.2⟩
              case measure => simp [intOf]
            · go_wp2
              go_roundw
              case rel => exact ⟨q, _, by omega, by go_num, HST.out.1, HST.out.2.1, HST.out.2.2⟩
              case measure => simp [intOf]
      · have hsf : bs.getD k false = false := by simpa using hst
        rw [hsf] at e0
        obtain ⟨gS, cS, hvS, _⟩ := (h1.kept0 hkept).pos (by omega)
        simp only [Value.slice.injEq] at hvS
        obtain ⟨rfl, _, rfl⟩ := hvS
        have hs1 : ts[k]? = some (some fun b => S (k * 256 + b.toNat)) := by rw [unhide HTE]; exact toks_set (by omega) (by rw [HSTE.out]; exact hsf)
        have HS1 := hide hs1
        have ec := htwo.2.1.cell hlN
        have fc := htwo.2.1.fr s.size
        have sto := htwo.store s.size false
        have kb := htwo.keptB hkept s.size false
        have hml := htwo.2.1.len
        have hlast : ∀ p, s.size ≤ p → p ≤ s.size → (m.set s.size false).getD p false = Pl.R ts s.data.toList k p := by
          obtain ⟨hlt1, hn1⟩ := List.getElem?_eq_some_iff.1 hs1
          refine set_from hml (Nat.le_refl _) (fun p h1 h2 => by omega) ?_
          rw [Pl.R_some_end ts s.data.toList hlt1 hn1 (by rw [unhide HBL]; exact Nat.le_refl _)]
        have HST := hide (And.intro sto.1 (And.intro kb hlast))
        clear sto kb hlast hml hs1 hst hsf
        go_wp2
        go_loopw [12] (fun i wr => ∃ (q : Nat) (l : List Bool), q ≤ s.size ∧ i = .int .i64 ((q : Int) - 1) ∧ Two wr w.heap.size s.size ga gb (rowOf ts s.data.toList s.size (k + 1)) l ∧ Kept [] w wr ∧ (∀ p, q ≤ p → p ≤ s.size → l.getD p false = Pl.R ts s.data.toList k p)) (fun i _ => (intOf i + 1).toNat)
        case atStart => exact ⟨s.size, _, Nat.le_refl _, rfl, HST.out.1, HST.out.2.1, HST.out.2.2⟩
        case round =>
          clear HST ec fc e0
          obtain ⟨q, l, hq, rfl, htw, hkp, hagree⟩ := hrel
          have HAG := hide hagree
          clear hagree
          have hll := htw.2.1.len
          cases q with
          | zero =>
            have el : l = rowOf ts s.data.toList s.size k := rowOf_of hll (fun p hp => HAG.out p (Nat.zero_le _) hp)
            rw [el] at htw
            clear el
            go_wp2
            go_roundw
            case rel => exact ⟨k, gb, ga, _, by omega, by go_num, rfl, rfl, htw.swap, hkp⟩
            case measure => simp [intOf]
          | succ q =>
            rw [show (((q + 1 : Nat) : Int) - 1) = (q : Int) from by omega]
            obtain ⟨hlt1, hn1⟩ := List.getElem?_eq_some_iff.1 HS1.out
            have hqs : q < s.size := by omega
            have hstep := Pl.R_some ts s.data.toList hlt1 hn1 (j := q) (by rw [unhide HBL]; omega)
            have hbq : s.data.toList[q]'(by rw [unhide HBL]; omega) = s[q] := rfl
            rw [hbq] at hstep
            have hlt256 : s[q].toNat < 256 := UInt8.toNat_lt _
            have eS := (h1.kept0 hkp).cell (k := k * 256 + s[q].toNat) (by omega)
            have en := htw.1.cell (show q + 1 < s.size + 1 by omega)
            rw [rowOf_at _ _ _ _ _ (by omega)] at en
            have ec := htw.2.1.cell (show q < s.size + 1 by omega)
            have fc := htw.2.1.fr q
            have sto := htw.store q (Pl.R ts s.data.toList k q)
            have kb := htw.keptB hkp q (Pl.R ts s.data.toList k q)
            have hag2 := set_from hll (show q ≤ s.size by omega) (fun p h1 h2 => HAG.out p h1 h2) (z := Pl.R ts s.data.toList k q) rfl
            have ne := htw.2.2
            rw [hstep] at sto kb hag2
            have HST := hide (And.intro sto.1 (And.intro kb hag2))
            have y1 : (0 : Int) ≤ (q : Int) := by omega
            have y2 : (q : Int) < (s.size : Int) := by omega
            have y3 : (0 : Int) ≤ (k : Int) := by omega
            have y4 : (k : Int) < (n : Int) := by omega
            have y5 : (s[q].toNat : Int) < 256 := by omega
            clear sto kb hag2 hstep hlt1 hn1 htw hkp HAG h0 h1 htwo hkept hbq
            generalize Pl.R ts s.data.toList (k + 1) (q + 1) = z1 at *
            generalize S (k * 256 + s[q].toNat) = z2 at *
            cases z2
            · go_wp2
              go_region
              all_goals
                go_wp2
                go_roundw
                case rel => exact ⟨q, _, by omega, by go_num, Two.drew HST.out.1, HST.out.2.1.drew, HST.out.2.2⟩
                case measure => simp [intOf]
            · go_wp2
              go_region
              all_goals
                go_wp2
                go_roundw
                case rel => exact ⟨q, _, by omega, by go_num, Two.drew HST.out.1, HST.out.2.1.drew, HST.out.2.2⟩
                case measure => simp [intOf]

end Go.Proofs.Qxb6601532a
