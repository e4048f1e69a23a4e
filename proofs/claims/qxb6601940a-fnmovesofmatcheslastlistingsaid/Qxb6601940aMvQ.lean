import Derived.Test.Qxb6601940aMvE
import Derived.Lib.SlicesS
namespace Go.Proofs.Qxb6601940a
open Go.RowKit
set_option linter.unusedVariables false

/-- What is known of a slice of moves that is read. -/
def RdM (w : World) (a : Option Addr) (ms : List Mv) : Prop :=
  (a = none → ms = []) ∧ ∀ x, a = some x → ∀ i m, ms[i]? = some m → w.cell? (x.add (i * 5)) = some (.string m.svc) ∧ w.cell? (x.add (i * 5 + 1)) = some (.int .i64 m.num) ∧ w.cell? (x.add (i * 5 + 2)) = some (.int .i64 m.rep) ∧ w.cell? (x.add (i * 5 + 3)) = some (.string m.fr) ∧ w.cell? (x.add (i * 5 + 4)) = some (.string m.to)
theorem RdM.kept {w w' : World} {a : Option Addr} {ms : List Mv} (h : RdM w a ms) (hk : Kept [] w w') : RdM w' a ms :=
  ⟨h.1, fun x hx i r hr => by obtain ⟨h0, h1, h2, h3, h4⟩ := h.2 x hx i r hr; exact ⟨cell_kept h0 hk, cell_kept h1 hk, cell_kept h2 hk, cell_kept h3 hk, cell_kept h4 hk⟩⟩
theorem RdM.at {w : World} {a : Option Addr} {ms : List Mv} (h : RdM w a ms) {i : Nat} {m : Mv} (hr : ms[i]? = some m) : ∃ b off, a = some ⟨b, off, none⟩ ∧ w.cell? ⟨b, off + i * 5, none⟩ = some (.string m.svc) ∧ w.cell? ⟨b, off + i * 5 + 1, none⟩ = some (.int .i64 m.num) ∧ w.cell? ⟨b, off + i * 5 + 2, none⟩ = some (.int .i64 m.rep) ∧ w.cell? ⟨b, off + i * 5 + 3, none⟩ = some (.string m.fr) ∧ w.cell? ⟨b, off + i * 5 + 4, none⟩ = some (.string m.to) := by
  cases a with
  | none => rw [h.1 rfl] at hr; simp at hr
  | some x =>
    obtain ⟨b, off, spot⟩ := x
    have h0 := h.2 _ rfl i m hr
    obtain ⟨r0, hr0⟩ := getElem?_lt rfl (Nat.lt_of_le_of_lt (Nat.zero_le i) (List.getElem?_eq_some_iff.1 hr).1)
    have hs : spot = none := by simpa [Addr.add] using World.cell?_spot (h.2 _ rfl 0 r0 hr0).1
    subst hs
    simp only [WideShapes.add_plain] at h0
    exact ⟨b, off, rfl, h0⟩
theorem flat5 (ms : List Mv) : ∀ (i : Nat) (m : Mv), ms[i]? = some m → ∀ j v, (cellsM m)[j]? = some v → (ms.flatMap cellsM)[i * 5 + j]? = some v := by
  induction ms with
  | nil => intro i m h; simp at h
  | cons x r ih =>
    intro i m h j v hj
    have hj5 : j < 5 := by have := (List.getElem?_eq_some_iff.1 hj).1; simpa [cellsM] using this
    rw [List.flatMap_cons]
    cases i with
    | zero =>
      simp at h
      subst h
      rw [List.getElem?_append_left (by simp [cellsM]; omega)]
      simpa using hj
    | succ i =>
      rw [List.getElem?_append_right (by simp [cellsM]; omega)]
      have := ih i m (by simpa using h) j v hj
      rw [show (i + 1) * 5 + j - (cellsM x).length = i * 5 + j by simp [cellsM]; omega]
      exact this
theorem rdM_of {w : World} {B g L cap : Nat} {ms : List Mv} (hl : ms.length = L) (h : w.ownsRow B 60 5 (.slice (some ⟨g, 0, none⟩) L cap) L (ms.flatMap cellsM)) : RdM w (some ⟨g, 0, none⟩) ms := by
  refine ⟨fun e => (by cases e), fun x hx i m hm => ?_⟩
  cases hx
  rcases h.2 with ⟨hv, _⟩ | ⟨g', cp, cur, hv, _, hg, _, _, hs, ht⟩
  · simp at hv
  · simp only [Value.slice.injEq, Option.some.injEq, Addr.mk.injEq, and_true, true_and] at hv
    obtain ⟨rfl, rfl⟩ := hv
    have key : ∀ j v, (cellsM m)[j]? = some v → w.cell? (⟨g, i * 5 + j, none⟩ : Addr) = some v := by
      intro j v hj
      have h1 := flat5 ms i m hm j v hj
      rw [cell_of_row w g (i * 5 + j) _ _ _ hg]
      rw [← ht] at h1
      have h2 := (List.getElem?_eq_some_iff.1 h1).1
      rw [List.getElem?_take_of_lt (by simp at h2; omega)] at h1
      simpa using h1
    simp only [WideShapes.add_plain, Nat.zero_add]
    exact ⟨key 0 _ rfl, key 1 _ rfl, key 2 _ rfl, key 3 _ rfl, key 4 _ rfl⟩

set_option maxHeartbeats 1000000 in
set_option maxRecDepth 100000 in
theorem same17_any (a a' : Option Addr) (n c c' : Nat) (ms : List Mv) (w : World) (hl : ms.length = n) (hn : n ≤ 4096 * 4096) (hr : RdM w a ms) (hr' : RdM w a' ms) :
    Calls Try.prog 17 #[.slice a n c, .slice a' n c'] w fun e w' => e = .returned (.bool true) ∧ Kept [] w w' := by
  have HL : Hid (ms.length = n) := hl
  have hn2 : n ≤ 16777216 := hn
  clear hl hn
  have hne : ((n : Int) != (n : Int)) = false := by simp
  go_enter Try.func17, Try.ntmps17
  go_wp2
  go_loopw [5] (fun i wr => ∃ k : Nat, k ≤ n ∧ i = .int .i64 k ∧ Kept [] w wr) (fun i _ => n - (intOf i).toNat)
  case atStart => exact ⟨0, Nat.zero_le _, rfl, Kept.refl _ _⟩
  case round =>
    obtain ⟨k, hk, rfl, hkept⟩ := hrel
    by_cases hlt : k < n
    · obtain ⟨m, hm⟩ := getElem?_lt HL.out hlt
      obtain ⟨b, off, ea, c0, c1, c2, c3, c4⟩ := (hr.kept hkept).at hm
      have hk1 := hkept.next (Kept.alloc wr (.cells #[.string m.svc, .int .i64 m.num, .int .i64 m.rep, .string m.fr, .string m.to] 60))
      obtain ⟨b', off', ea', d0, d1, d2, d3, d4⟩ := (hr'.kept hk1).at hm
      subst ea ea'
      have hk2 := hk1.next (Kept.alloc _ (.cells #[.string m.svc, .int .i64 m.num, .int .i64 m.rep, .string m.fr, .string m.to] 60))
      have HK2 : Hid (Kept [] _ _) := hk2
      clear hm hk1 hk2 hkept
      go_wp2
      go_roundw
      case rel => exact ⟨k + 1, by omega, by go_num, HK2.out⟩
      case measure => simp [intOf]; omega
    · obtain rfl : k = n := by omega
      go_wp2
      go_ret
      exact ⟨rfl, hkept⟩

end Go.Proofs.Qxb6601940a
