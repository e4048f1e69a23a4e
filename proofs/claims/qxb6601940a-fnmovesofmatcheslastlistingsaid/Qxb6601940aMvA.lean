import Derived.Test.Qxb6601940aWalkA
namespace Go.Proofs.Qxb6601940a
open Go.RowKit
set_option linter.unusedVariables false

/-! ### Listings: parts, and the replicas of each -/
structure Rp where
  num : Int
  node : ByteArray
  fd : ByteArray
  ud : ByteArray

structure Pt where
  svc : ByteArray
  num : Int
  rule : ByteArray
  ra : Option Addr
  rc : Nat
  reps : List Rp

/-- What is known of a slice of replicas that is read. -/
def RdR (w : World) (a : Option Addr) (rs : List Rp) : Prop :=
  (a = none → rs = []) ∧ ∀ x, a = some x → ∀ i r, rs[i]? = some r → w.cell? (x.add (i * 4)) = some (.int .i64 r.num) ∧ w.cell? (x.add (i * 4 + 1)) = some (.string r.node) ∧ w.cell? (x.add (i * 4 + 2)) = some (.string r.fd) ∧ w.cell? (x.add (i * 4 + 3)) = some (.string r.ud)

/-- What is known of a slice of parts that is read. -/
def RdP (w : World) (a : Option Addr) (ps : List Pt) : Prop :=
  (a = none → ps = []) ∧ ∀ x, a = some x → ∀ i p, ps[i]? = some p → w.cell? (x.add (i * 4)) = some (.string p.svc) ∧ w.cell? (x.add (i * 4 + 1)) = some (.int .i64 p.num) ∧ w.cell? (x.add (i * 4 + 2)) = some (.string p.rule) ∧ w.cell? (x.add (i * 4 + 3)) = some (.slice p.ra p.reps.length p.rc) ∧ RdR w p.ra p.reps ∧ (p.ra = none → p.rc = 0)

theorem cell_kept {w w' : World} {a : Addr} {v : Value} (h : w.cell? a = some v) (hk : Kept [] w w') : w'.cell? a = some v :=
  (hk.cell (World.block_lt_of_cell? _ _ h) (by simp)).trans h
theorem RdR.kept {w w' : World} {a : Option Addr} {rs : List Rp} (h : RdR w a rs) (hk : Kept [] w w') : RdR w' a rs :=
  ⟨h.1, fun x hx i r hr => by obtain ⟨h0, h1, h2, h3⟩ := h.2 x hx i r hr; exact ⟨cell_kept h0 hk, cell_kept h1 hk, cell_kept h2 hk, cell_kept h3 hk⟩⟩
theorem RdP.kept {w w' : World} {a : Option Addr} {ps : List Pt} (h : RdP w a ps) (hk : Kept [] w w') : RdP w' a ps :=
  ⟨h.1, fun x hx i r hr => by obtain ⟨h0, h1, h2, h3, h4, h5⟩ := h.2 x hx i r hr; exact ⟨cell_kept h0 hk, cell_kept h1 hk, cell_kept h2 hk, cell_kept h3 hk, h4.kept hk, h5⟩⟩

theorem getElem?_lt {α : Type} {l : List α} {i n : Nat} (hl : l.length = n) (h : i < n) : ∃ x, l[i]? = some x := ⟨l[i]'(by omega), by simp [hl, h]⟩
theorem RdR.at {w : World} {a : Option Addr} {rs : List Rp} (h : RdR w a rs) {i : Nat} {r : Rp} (hr : rs[i]? = some r) : ∃ b off, a = some ⟨b, off, none⟩ ∧ w.cell? ⟨b, off + i * 4, none⟩ = some (.int .i64 r.num) ∧ w.cell? ⟨b, off + i * 4 + 1, none⟩ = some (.string r.node) ∧ w.cell? ⟨b, off + i * 4 + 2, none⟩ = some (.string r.fd) ∧ w.cell? ⟨b, off + i * 4 + 3, none⟩ = some (.string r.ud) := by
  cases a with
  | none => rw [h.1 rfl] at hr; simp at hr
  | some x =>
    obtain ⟨b, off, spot⟩ := x
    have h0 := h.2 _ rfl i r hr
    obtain ⟨r0, hr0⟩ := getElem?_lt rfl (Nat.lt_of_le_of_lt (Nat.zero_le i) (List.getElem?_eq_some_iff.1 hr).1)
    have hs : spot = none := by simpa [Addr.add] using World.cell?_spot (h.2 _ rfl 0 r0 hr0).1
    subst hs
    simp only [WideShapes.add_plain] at h0
    exact ⟨b, off, rfl, h0⟩
theorem RdP.at {w : World} {a : Option Addr} {ps : List Pt} (h : RdP w a ps) {i : Nat} {p : Pt} (hr : ps[i]? = some p) : ∃ b off, a = some ⟨b, off, none⟩ ∧ w.cell? ⟨b, off + i * 4, none⟩ = some (.string p.svc) ∧ w.cell? ⟨b, off + i * 4 + 1, none⟩ = some (.int .i64 p.num) ∧ w.cell? ⟨b, off + i * 4 + 2, none⟩ = some (.string p.rule) ∧ w.cell? ⟨b, off + i * 4 + 3, none⟩ = some (.slice p.ra p.reps.length p.rc) ∧ RdR w p.ra p.reps ∧ (p.ra = none → p.rc = 0) := by
  cases a with
  | none => rw [h.1 rfl] at hr; simp at hr
  | some x =>
    obtain ⟨b, off, spot⟩ := x
    have h0 := h.2 _ rfl i p hr
    obtain ⟨r0, hr0⟩ := getElem?_lt rfl (Nat.lt_of_le_of_lt (Nat.zero_le i) (List.getElem?_eq_some_iff.1 hr).1)
    have hs : spot = none := by simpa [Addr.add] using World.cell?_spot (h.2 _ rfl 0 r0 hr0).1
    subst hs
    simp only [WideShapes.add_plain] at h0
    exact ⟨b, off, rfl, h0⟩

/-- At most 4096 parts, of at most 4096 replicas each. -/
def Few (ps : List Pt) : Prop := ps.length ≤ 4096 ∧ ∀ p ∈ ps, p.reps.length ≤ 4096
/-- Some truth value comes back, the world has not turned; if it is true, then p. -/
def Says (p : Prop) (w : World) (e : Ending) (w' : World) : Prop := ∃ b, e = .returned (.bool b) ∧ w' = w ∧ (b = true → p)
theorem Says.no (p : Prop) (w : World) : Says p w (.returned (.bool false)) w := ⟨_, rfl, rfl, fun h => by cases h⟩
theorem Says.yes {p : Prop} (w : World) (h : p) : Says p w (.returned (.bool true)) w := ⟨_, rfl, rfl, fun _ => h⟩

set_option maxHeartbeats 400000 in
theorem fit_any (a : Option Addr) (n c : Nat) (ps : List Pt) (w : World) (hl : ps.length = n) (hr : RdP w a ps) (hm : ∀ p ∈ ps, p.reps.length ≤ maxLen) (hn : n ≤ maxLen) :
    Calls Try.prog 13 #[.slice a n c] w (Says (Few ps) w) := by
  have HL : Hid (ps.length = n) := hl
  have HM : Hid (∀ p ∈ ps, p.reps.length ≤ maxLen) := hm
  clear hl hm
  unfold maxLen at hn
  by_cases hn2 : n ≤ 4096
  · go_enter Try.func13, Try.ntmps13
    go_wp2
    go_loop [3] (fun i => ∃ k : Nat, k ≤ n ∧ i = .int .i64 k ∧ ∀ j p, j < k → ps[j]? = some p → p.reps.length ≤ 4096) (fun i => n - (intOf i).toNat)
    case atStart => exact ⟨0, Nat.zero_le _, rfl, by intro j p hj; omega⟩
    case round =>
      obtain ⟨k, hk, rfl, hall⟩ := hrel
      have HA : Hid (∀ j p, j < k → ps[j]? = some p → p.reps.length ≤ 4096) := hall
      clear hall
      by_cases hlt : k < n
      · obtain ⟨p, hp⟩ := getElem?_lt HL.out hlt
        obtain ⟨b, off, rfl, c0, c1, c2, c3, r, hc⟩ := hr.at hp
        have HP : Hid (ps[k]? = some p) := hp
        have hm1 := HM.out p (List.mem_of_getElem? hp)
        unfold maxLen at hm1
        clear hp hr c0 c1 c2 r hc
        by_cases hb : p.reps.length ≤ 4096
        · go_wp2
          go_round
          case rel =>
            refine ⟨k + 1, by omega, by go_num, fun j q hj hq => ?_⟩
            by_cases e : j = k
            · subst e
              have := HP.out
              rw [hq] at this
              cases this
              exact hb
            · exact HA.out j q (by omega) hq
          case measure => simp [intOf]; omega
        · go_wp2
          go_ret
          exact Says.no _ _
      · obtain rfl : k = n := by omega
        go_wp2
        go_ret
        refine Says.yes _ ⟨by rw [HL.out]; exact hn2, fun p hp => ?_⟩
        obtain ⟨j, hj⟩ := List.mem_iff_getElem?.1 hp
        exact HA.out j p (by have := (List.getElem?_eq_some_iff.1 hj).1; rw [HL.out] at this; exact this) hj
  · go_enter Try.func13, Try.ntmps13
    go_wp2
    go_ret
    exact Says.no _ _

end Go.Proofs.Qxb6601940a
