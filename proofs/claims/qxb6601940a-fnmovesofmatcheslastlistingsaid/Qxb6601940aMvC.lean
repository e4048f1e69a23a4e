import Derived.Test.Qxb6601940aMvA
import Derived.Deep.MidRow
namespace Go.Proofs.Qxb6601940a
open Go.RowKit
set_option linter.unusedVariables false

/-! ### Rows of structs of four cells, filled one by one -/
def cellsR (r : Rp) : List Value := [.int .i64 r.num, .string r.node, .string r.fd, .string r.ud]
def cellsP (p : Pt) : List Value := [.string p.svc, .int .i64 p.num, .string p.rule, .slice p.ra p.reps.length p.rc]
/-- What the moves look at. -/
structure Cr where
  svc : ByteArray
  num : Int
  reps : List Rp
def core (p : Pt) : Cr := ⟨p.svc, p.num, p.reps⟩

structure Fill (w : World) (g n : Nat) (xs : List (List Value)) : Prop where
  there : w.there g 0 (n * 4)
  four : ∀ c ∈ xs, c.length = 4
  lie : ∀ i c, xs[i]? = some c → w.rangeAt g (i * 4) c

theorem Kept.setCells (w : World) (g o : Nat) (vs : List Value) : Kept [some g] w (w.setCells g o vs) := by
  induction vs generalizing w o with
  | nil => exact Kept.refl _ _
  | cons v r ih =>
    refine Kept.trans (T := [some g]) ?_ (ih (w.setCell ⟨g, o, none⟩ v) (o + 1)) (fun k hk _ => hk)
    refine ⟨rfl, rfl, rfl, by simp [World.setCell], fun k hk hne => ?_⟩
    exact Below.heap_setCell _ _ _ _ (by simpa using hne)

theorem there_kept {w w' : World} {S : List (Option Nat)} {g o n : Nat} (h : w.there g o n) (hk : Kept S w w') (hS : some g ∉ S) : w'.there g o n := fun j hj => by
  obtain ⟨h1, h2⟩ := h j hj
  obtain ⟨v, hv⟩ := Option.isSome_iff_exists.1 h1
  have hlt := World.block_lt_of_cell? _ _ hv
  exact ⟨by rw [hk.cell hlt hS]; exact h1, by rw [hk.frozen hlt hS]; exact h2⟩
theorem rangeAt_kept {w w' : World} {S : List (Option Nat)} {g o : Nat} {cs : List Value} (h : w.rangeAt g o cs) (hk : Kept S w w') (hS : some g ∉ S) : w'.rangeAt g o cs := fun j v hv => by
  have h1 := h j v hv
  rw [hk.cell (World.block_lt_of_cell? _ _ h1) hS]; exact h1

theorem Fill.kept {w w' : World} {S : List (Option Nat)} {g n : Nat} {xs : List (List Value)} (h : Fill w g n xs) (hk : Kept S w w') (hS : some g ∉ S) : Fill w' g n xs :=
  ⟨there_kept h.there hk hS, h.four, fun i c hc => rangeAt_kept (h.lie i c hc) hk hS⟩

theorem Fill.at {w : World} {g n : Nat} {xs : List (List Value)} (h : Fill w g n xs) {k : Nat} (hk : k < n) : w.there g (k * 4) 4 := fun j hj => by
  have := h.there (k * 4 + j) (by omega)
  rwa [Nat.zero_add] at this

theorem Fill.store {w : World} {g n k : Nat} {xs : List (List Value)} (h : Fill w g n xs) (hl : xs.length = k) (hk : k < n) {c : List Value} (hc : c.length = 4) : Fill (w.setCells g (k * 4) c) g n (xs ++ [c]) := by
  refine ⟨World.there_setCells h.there _ _ _, fun d hd => ?_, fun i d hd => ?_⟩
  · rcases List.mem_append.1 hd with hd | hd
    · exact h.four d hd
    · simp at hd; rw [hd]; exact hc
  · by_cases hi : i < xs.length
    · rw [List.getElem?_append_left hi] at hd
      have h4 := h.four d (List.mem_of_getElem? hd)
      exact World.rangeAt_setCells_apart (h.lie i d hd) _ _ _ (.inr (.inl (by omega)))
    · have hi2 := (List.getElem?_eq_some_iff.1 hd).1
      simp at hi2
      obtain rfl : i = xs.length := by omega
      simp at hd
      subst hd
      rw [hl]
      exact World.rangeAt_setCells_same _ _ _ _ (by rw [hc]; exact h.at hk)

/-- A row just made. -/
theorem fill_made {w : World} {B g n : Nat} {e : TypeId} {cs : List Value} (h : w.ownsRow B e 4 (.slice (some ⟨g, 0, none⟩) n n) n cs) : Fill w g n [] := by
  refine ⟨fun j hj => ?_, fun c hc => by simp at hc, fun i c hc => by simp at hc⟩
  rcases h.2 with ⟨hv, _⟩ | ⟨g', cap, cur, hv, _, hg, _, _, hs, _⟩
  · simp at hv
  · simp only [Value.slice.injEq, Option.some.injEq, Addr.mk.injEq, and_true, true_and] at hv
    obtain ⟨rfl, rfl⟩ := hv
    refine ⟨?_, ?_⟩
    · simp [World.cell?, hg]
      omega
    · simp [World.frozen?, hg]

theorem getElem?_map_some {α β : Type} {f : α → β} {l : List α} {i : Nat} {x : α} (h : l[i]? = some x) : (l.map f)[i]? = some (f x) := by simp [h]

theorem Fill.rdR {w : World} {g n : Nat} {rs : List Rp} (h : Fill w g n (rs.map cellsR)) : RdR w (some ⟨g, 0, none⟩) rs := by
  refine ⟨fun e => (by cases e), fun x hx i r hr => ?_⟩
  cases hx
  have h0 := h.lie i _ (getElem?_map_some (f := cellsR) hr)
  simp only [WideShapes.add_plain, Nat.zero_add]
  exact ⟨h0 0 _ rfl, h0 1 _ rfl, h0 2 _ rfl, h0 3 _ rfl⟩
theorem Fill.rdP {w : World} {g n : Nat} {ps : List Pt} (h : Fill w g n (ps.map cellsP)) (hr : ∀ p ∈ ps, RdR w p.ra p.reps ∧ (p.ra = none → p.rc = 0)) : RdP w (some ⟨g, 0, none⟩) ps := by
  refine ⟨fun e => (by cases e), fun x hx i p hp => ?_⟩
  cases hx
  have h0 := h.lie i _ (getElem?_map_some (f := cellsP) hp)
  have h1 := hr p (List.mem_of_getElem? hp)
  simp only [WideShapes.add_plain, Nat.zero_add]
  exact ⟨h0 0 _ rfl, h0 1 _ rfl, h0 2 _ rfl, h0 3 _ rfl, h1.1, h1.2⟩

theorem RdR.keptS {w w' : World} {S : List (Option Nat)} {a : Option Addr} {rs : List Rp} (h : RdR w a rs) (hk : Kept S w w') (hS : ∀ x, a = some x → some x.block ∉ S) : RdR w' a rs := by
  have key : ∀ x, a = some x → ∀ j v, w.cell? (x.add j) = some v → w'.cell? (x.add j) = some v := fun x hx j v hv =>
    (hk.cell (World.block_lt_of_cell? _ _ hv) (by have := hS x hx; have e : (x.add j).block = x.block := (by unfold Addr.add; split <;> rfl); rw [e]; exact this)).trans hv
  refine ⟨h.1, fun x hx i r hr => ?_⟩
  obtain ⟨h0, h1, h2, h3⟩ := h.2 x hx i r hr
  exact ⟨key x hx _ _ h0, key x hx _ _ h1, key x hx _ _ h2, key x hx _ _ h3⟩

/-- A row of parts, the first k of them laid: each with the content of those that came. -/
structure Cl (w0 w : World) (g n k : Nat) (ps qs : List Pt) : Prop where
  len : qs.length = k
  same : qs.map core = (ps.take k).map core
  fill : Fill w g n (qs.map cellsP)
  reps : ∀ p ∈ qs, RdR w p.ra p.reps ∧ (p.ra = none → p.rc = 0) ∧ ∀ x, p.ra = some x → g < x.block
  kept : Kept [] w0 w
  new : w0.heap.size ≤ g

theorem Cl.on {w0 w w' : World} {g n k : Nat} {ps qs : List Pt} (h : Cl w0 w g n k ps qs) (hk : Kept [] w w') : Cl w0 w' g n k ps qs :=
  ⟨h.len, h.same, h.fill.kept hk (by simp), fun p hp => ⟨(h.reps p hp).1.kept hk, (h.reps p hp).2⟩, h.kept.next hk, h.new⟩

theorem Cl.next {w0 w : World} {g n k : Nat} {ps qs : List Pt} (h : Cl w0 w g n k ps qs) (hk : k < n) {p q : Pt} (hp : ps[k]? = some p) (hc : core q = core p) (hr : RdR w q.ra q.reps) (hz : q.ra = none → q.rc = 0) (hg : ∀ x, q.ra = some x → g < x.block) :
    Cl w0 (w.setCells g (k * 4) (cellsP q)) g n (k + 1) ps (qs ++ [q]) := by
  have hK := Kept.setCells w g (k * 4) (cellsP q)
  have hap : ∀ x : Addr, g < x.block → some x.block ∉ [some g] := fun x hx e => by simp at e; omega
  refine ⟨by simp [h.len], ?_, ?_, fun r hr' => ?_, h.kept.trans hK (fun j hj hj2 => by simp at hj; have := h.new; omega), h.new⟩
  · have hlt := (List.getElem?_eq_some_iff.1 hp).1
    rw [List.take_add_one, hp]
    simp [h.same, hc]
  · rw [List.map_append]
    exact h.fill.store (by simp [h.len]) hk rfl
  · rcases List.mem_append.1 hr' with hr' | hr'
    · obtain ⟨h1, h2, h3⟩ := h.reps r hr'
      exact ⟨h1.keptS hK (fun x hx => hap x (h3 x hx)), h2, h3⟩
    · simp at hr'
      subst hr'
      exact ⟨hr.keptS hK (fun x hx => hap x (hg x hx)), hz, hg⟩

theorem Cl.start {w0 w : World} {g n : Nat} {ps : List Pt} (hf : Fill w g n []) (hk : Kept [] w0 w) (hg : w0.heap.size ≤ g) : Cl w0 w g n 0 ps [] :=
  ⟨rfl, by simp, hf, fun p hp => by simp at hp, hk, hg⟩

/-- What a copy of a listing is. -/
def Cloned (n : Nat) (nil : Bool) (ps : List Pt) (w : World) (e : Ending) (w' : World) : Prop :=
  ∃ a' c' qs, e = .returned (.slice a' n c') ∧ qs.length = n ∧ RdP w' a' qs ∧ qs.map core = ps.map core ∧ (a' = none → c' = 0) ∧ a'.isNone = nil ∧ Kept [] w w'
theorem Cl.done {w0 w : World} {g n : Nat} {ps qs : List Pt} (h : Cl w0 w g n n ps qs) (hl : ps.length = n) : Cloned n false ps w0 (.returned (.slice (some ⟨g, 0, none⟩) n n)) w :=
  ⟨_, _, qs, rfl, h.len, h.fill.rdP (fun p hp => ⟨(h.reps p hp).1, (h.reps p hp).2.1⟩), by rw [h.same, ← hl, List.take_length], fun e => (by cases e), rfl, h.kept⟩

/-- A row of replicas, the first q of them laid. -/
structure Cq (w0 w : World) (g m q : Nat) (rs : List Rp) : Prop where
  fill : Fill w g m ((rs.take q).map cellsR)
  kept : Kept [] w0 w
  new : w0.heap.size ≤ g
theorem Cq.on {w0 w w' : World} {g m q : Nat} {rs : List Rp} (h : Cq w0 w g m q rs) (hk : Kept [] w w') : Cq w0 w' g m q rs := ⟨h.fill.kept hk (by simp), h.kept.next hk, h.new⟩
theorem Cq.start {w0 w : World} {g m : Nat} {rs : List Rp} (hf : Fill w g m []) (hk : Kept [] w0 w) (hg : w0.heap.size ≤ g) : Cq w0 w g m 0 rs := ⟨by simpa using hf, hk, hg⟩
theorem Cq.next {w0 w : World} {g m q : Nat} {rs : List Rp} (h : Cq w0 w g m q rs) (hl : rs.length = m) (hq : q < m) {r : Rp} (hr : rs[q]? = some r) : Cq w0 (w.setCells g (q * 4) (cellsR r)) g m (q + 1) rs := by
  have hK := Kept.setCells w g (q * 4) (cellsR r)
  refine ⟨?_, h.kept.trans hK (fun j hj hj2 => by simp at hj; have := h.new; omega), h.new⟩
  have := h.fill.store (k := q) (c := cellsR r) (by simp; omega) hq rfl
  rw [List.take_add_one, hr]
  simpa using this
theorem Cq.done {w0 w : World} {g m : Nat} {rs : List Rp} (h : Cq w0 w g m m rs) (hl : rs.length = m) : RdR w (some ⟨g, 0, none⟩) rs := by
  have := h.fill.rdR
  rwa [← hl, List.take_length] at this

end Go.Proofs.Qxb6601940a
