import Derived.Test.Qxb6601940aWalkA
import Derived.Test.Qxb6601940aTurn
namespace Go.Proofs.Qxb6601940a
open Go.RowKit

/-- 'x[:0]' -/
theorem run_cut0 (w : World) (a : Option Addr) (n c : Nat) (ha : a = none ∨ ∃ g, a = some ⟨g, 0, none⟩) :
    (Instr.slice 35 (.slice a n c) none (some (.int .i64 0)) none).run Try.prog w = .ok (.slice a 0 c) w := by
  have hu : Try.prog.underlying 35 = some (.slice (Try.prog.elem 35)) := by kernel_rfl
  rw [run_slice_h (P := Try.prog) w 35 a n c hu .i64 0 (by omega) (by omega)]
  have hs : (sizeOf (Try.prog.elem 35)).run Try.prog w = .ok 1 w := by kernel_rfl
  rw [hs]
  simp only [Result.andThen, sliced]
  rcases ha with rfl | ⟨g, rfl⟩ <;> simp [Addr.add]

/-- The five rows of a numbering behind k keys. -/
def five (L : Nat) (vs vv vf vc vk : Value) (ks : List Int) (k : Nat) : List (Value × Nat × List Int) :=
  [(vs, L, Pl.S L (ks.take k)), (vv, (Pl.D (ks.take k)).length, Pl.D (ks.take k)), (vf, (Pl.D (ks.take k)).length, Pl.F (ks.take k)), (vc, (Pl.D (ks.take k)).length, Pl.C (ks.take k)), (vk, ks.length, Pl.Wk (ks.take k) ++ ks.drop k)]

theorem take_next {ks : List Int} {k : Nat} (h : k < ks.length) : ks.take (k + 1) = ks.take k ++ [ks.getD k 0] := by
  rw [List.take_succ_eq_append_getElem h]; simp [List.getD, h]

theorem keys_at {ks : List Int} {k : Nat} (h : k < ks.length) : (Pl.Wk (ks.take k) ++ ks.drop k).getD k 0 = ks.getD k 0 := by
  have hl : (Pl.Wk (ks.take k)).length = k := by simp [Pl.Wk]; omega
  simp [List.getD, List.getElem?_append_right (Nat.le_of_eq hl), hl]
theorem keys_set {ks : List Int} {k : Nat} (h : k < ks.length) (z : Int) (hz : z = ((Pl.D (ks.take k ++ [ks.getD k 0])).idxOf (ks.getD k 0) : Int)) : (Pl.Wk (ks.take k) ++ ks.drop k).set k z = Pl.Wk (ks.take (k + 1)) ++ ks.drop (k + 1) := by
  have hl : (Pl.Wk (ks.take k)).length = k := by simp [Pl.Wk]; omega
  rw [List.set_append_right _ _ (by omega), hl, Nat.sub_self, take_next h, Pl.Wk_snoc, List.drop_eq_getElem_cons h, List.set_cons_zero, hz, List.append_assoc]
  rfl

/-- The state behind k keys. -/
def NR (L : Nat) (a0 : Option Addr) (c0 : Nat) (a4 : Option Addr) (c4 : Nat) (ks : List Int) (B : Nat) (l0 : List (Value × Nat × List Int)) (w0 : World) (k : Nat) (vv vf vc : Value) (wr : World) : Prop :=
  Turn 3 B l0 (five L (.slice a0 L c0) vv vf vc (.slice a4 ks.length c4) ks k) w0 wr

/-- A key that has come before. -/
theorem NR.old {L : Nat} {gs c0 gk c4 gc cc : Nat} {ks : List Int} {B : Nat} {l0 : List (Value × Nat × List Int)} {w0 wr : World} {k : Nat} {vv vf : Value}
    (h : NR L (some ⟨gs, 0, none⟩) c0 (some ⟨gk, 0, none⟩) c4 ks B l0 w0 k vv vf (.slice (some ⟨gc, 0, none⟩) (Pl.D (ks.take k)).length cc) wr) (hk : k < ks.length) (hm : ks.getD k 0 ∈ ks.take k) :
    NR L (some ⟨gs, 0, none⟩) c0 (some ⟨gk, 0, none⟩) c4 ks B l0 w0 (k + 1) vv vf (.slice (some ⟨gc, 0, none⟩) (Pl.D (ks.take k)).length cc)
      ((wr.setCell ⟨gk, k, none⟩ (.int .i64 ((Pl.D (ks.take k)).idxOf (ks.getD k 0) : Int))).setCell ⟨gc, (Pl.D (ks.take k)).idxOf (ks.getD k 0), none⟩ (.int .i64 (((ks.take k).count (ks.getD k 0) : Int) + 1))) := by
  have t1 := Turn.store h.rows (i := 4) rfl k ((Pl.D (ks.take k)).idxOf (ks.getD k 0) : Int)
  have t2 := Turn.store t1.rows (i := 3) rfl ((Pl.D (ks.take k)).idxOf (ks.getD k 0)) (((ks.take k).count (ks.getD k 0) : Int) + 1)
  have t := (h.trans t1).trans t2
  unfold NR
  have e1 : five L (.slice (some ⟨gs, 0, none⟩) L c0) vv vf (.slice (some ⟨gc, 0, none⟩) (Pl.D (ks.take k)).length cc) (.slice (some ⟨gk, 0, none⟩) ks.length c4) ks (k + 1) = _ := rfl
  have hD : Pl.D (ks.take (k + 1)) = Pl.D (ks.take k) := by rw [take_next hk, Pl.D_old hm]
  have hS : Pl.S L (ks.take (k + 1)) = Pl.S L (ks.take k) := by rw [take_next hk, Pl.S_old L hm]
  have hF : Pl.F (ks.take (k + 1)) = Pl.F (ks.take k) := by rw [take_next hk, Pl.F_old hm]
  have hC : Pl.C (ks.take (k + 1)) = (Pl.C (ks.take k)).set ((Pl.D (ks.take k)).idxOf (ks.getD k 0)) (((ks.take k).count (ks.getD k 0) : Int) + 1) := by rw [take_next hk, Pl.C_old hm]
  have hW : Pl.Wk (ks.take (k + 1)) ++ ks.drop (k + 1) = (Pl.Wk (ks.take k) ++ ks.drop k).set k ((Pl.D (ks.take k)).idxOf (ks.getD k 0) : Int) := (keys_set hk _ (by rw [Pl.idx_snoc _ hm])).symm
  unfold five
  rw [hD, hS, hF, hC, hW]
  exact t

/-- A key that is new. -/
theorem NR.fresh {L : Nat} {gs c0 gk c4 : Nat} {ks : List Int} {B : Nat} {l0 : List (Value × Nat × List Int)} {w0 wr w1 w2 w3 : World} {k : Nat} {vv vf vc : Value} {un : Nat}
    (h : NR L (some ⟨gs, 0, none⟩) c0 (some ⟨gk, 0, none⟩) c4 ks B l0 w0 k vv vf vc wr) (hk : k < ks.length) (hu : ks.getD k 0 = (un : Int)) (hm : (un : Int) ∉ ks.take k)
    {g1 k1 g2 k2 g3 k3 : Nat} {l1 l2 l3 : List (Value × Nat × List Int)}
    (t1 : Turn 3 B (five L (.slice (some ⟨gs, 0, none⟩) L c0) vv vf vc (.slice (some ⟨gk, 0, none⟩) ks.length c4) ks k) l1 wr w1)
    (e1 : l1 = (five L (.slice (some ⟨gs, 0, none⟩) L c0) vv vf vc (.slice (some ⟨gk, 0, none⟩) ks.length c4) ks k).set 1 (.slice (some ⟨g1, 0, none⟩) ((Pl.D (ks.take k)).length + 1) k1, (Pl.D (ks.take k)).length + 1, Pl.D (ks.take k) ++ [(un : Int)]))
    (t2 : Turn 3 B l1 l2 w1 w2) (e2 : l2 = l1.set 2 (.slice (some ⟨g2, 0, none⟩) ((Pl.D (ks.take k)).length + 1) k2, (Pl.D (ks.take k)).length + 1, Pl.F (ks.take k) ++ [(k : Int)]))
    (t3 : Turn 3 B l2 l3 w2 w3) (e3 : l3 = l2.set 3 (.slice (some ⟨g3, 0, none⟩) ((Pl.D (ks.take k)).length + 1) k3, (Pl.D (ks.take k)).length + 1, Pl.C (ks.take k) ++ [0])) :
    NR L (some ⟨gs, 0, none⟩) c0 (some ⟨gk, 0, none⟩) c4 ks B l0 w0 (k + 1) (.slice (some ⟨g1, 0, none⟩) ((Pl.D (ks.take k)).length + 1) k1) (.slice (some ⟨g2, 0, none⟩) ((Pl.D (ks.take k)).length + 1) k2) (.slice (some ⟨g3, 0, none⟩) ((Pl.D (ks.take k)).length + 1) k3)
      (((w3.setCell ⟨gs, un, none⟩ (.int .i64 (((Pl.D (ks.take k)).length : Int) + 1))).setCell ⟨gk, k, none⟩ (.int .i64 ((Pl.D (ks.take k)).length : Int))).setCell ⟨g3, (Pl.D (ks.take k)).length, none⟩ (.int .i64 1)) := by
  subst e1 e2 e3
  have t4 := Turn.store t3.rows (i := 0) rfl un (((Pl.D (ks.take k)).length : Int) + 1)
  have t5 := Turn.store t4.rows (i := 4) rfl k ((Pl.D (ks.take k)).length : Int)
  have t6 := Turn.store t5.rows (i := 3) rfl (Pl.D (ks.take k)).length 1
  have t := (((((h.trans t1).trans t2).trans t3).trans t4).trans t5).trans t6
  unfold NR
  have hm' : ks.getD k 0 ∉ ks.take k := by rw [hu]; exact hm
  have hD : Pl.D (ks.take (k + 1)) = Pl.D (ks.take k) ++ [(un : Int)] := by rw [take_next hk, Pl.D_new hm', hu]
  have hL : (Pl.D (ks.take (k + 1))).length = (Pl.D (ks.take k)).length + 1 := by rw [hD]; simp
  have hS : Pl.S L (ks.take (k + 1)) = (Pl.S L (ks.take k)).set un (((Pl.D (ks.take k)).length : Int) + 1) := by rw [take_next hk, hu, Pl.S_new L hm]
  have hF : Pl.F (ks.take (k + 1)) = Pl.F (ks.take k) ++ [(k : Int)] := by rw [take_next hk, Pl.F_new hm']; simp; omega
  have hC : Pl.C (ks.take (k + 1)) = (Pl.C (ks.take k) ++ [0]).set (Pl.D (ks.take k)).length 1 := by rw [take_next hk, Pl.C_new hm']
  have hW : Pl.Wk (ks.take (k + 1)) ++ ks.drop (k + 1) = (Pl.Wk (ks.take k) ++ ks.drop k).set k ((Pl.D (ks.take k)).length : Int) := (keys_set hk _ (by rw [Pl.idx_new hm'])).symm
  unfold five
  rw [hL, hD, hS, hF, hC, hW]
  exact t

end Go.Proofs.Qxb6601940a
