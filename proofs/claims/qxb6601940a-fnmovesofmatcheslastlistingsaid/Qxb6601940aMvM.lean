import Derived.Test.Qxb6601940aMvC
import Derived.Maps.OwnSet
import Derived.DeepKeys4
namespace Go.Proofs.Qxb6601940a
open Go.RowKit
open Go.Maps (Keyed)
set_option linter.unusedVariables false

/-! ### A map that the call makes, as a function from key values to element values -/
/-- Each element is told as itself. -/
def tokE (v : Value) : Option (DataW Value × List MemPlace) := some (.held v, [])

def MapV (w : World) (k : TypeId) (b n : Nat) (f : Value → Option Value) : Prop :=
  ∃ D : DataW Value, w.ownsMap Try.prog k tokE b n D ∧ ∀ key kl, keyOf Try.prog k key = some kl → ∀ zd, D.atKey kl zd = (f key).elim zd DataW.held

theorem mapV_made (w : World) (k : TypeId) : MapV (w.alloc (.map #[] 0)) k w.heap.size 0 (fun _ => none) :=
  ⟨_, World.ownsMap_made w Try.prog k tokE, fun key kl _ zd => Maps.atKey_of_not_has rfl zd⟩
theorem MapV.kept {w w' : World} {k : TypeId} {b n : Nat} {f : Value → Option Value} {S : List (Option Nat)} (h : MapV w k b n f) (hk : Kept S w w') (hS : some b ∉ S) : MapV w' k b n f := by
  obtain ⟨D, ⟨es, clock, hb, r⟩, hf⟩ := h
  exact ⟨D, ⟨es, clock, (hk.block b (Array.getElem?_eq_some_iff.1 hb).1 hS).trans hb, r⟩, hf⟩
theorem MapV.lt {w : World} {k : TypeId} {b n : Nat} {f : Value → Option Value} (h : MapV w k b n f) : b < w.heap.size := by
  obtain ⟨D, ho, _⟩ := h
  exact ho.lt
theorem MapV.congr {w : World} {k : TypeId} {b n : Nat} {f f' : Value → Option Value} (h : MapV w k b n f) (e : ∀ y, f' y = f y) : MapV w k b n f' := by
  obtain ⟨D, ho, hf⟩ := h
  exact ⟨D, ho, fun key kl hk zd => by rw [e]; exact hf key kl hk zd⟩

section
variable {w : World} {ops : Array Oper} {rest : List Oper} {o : Oper} {a : Act} {Q : Exit → Act → World → Prop}

theorem wpList_put_map (hg : o.guard = none) (t : TypeId) (m x v : Operand) (hop : o.op = Op.mapUpdate t m x v)
    (k e : TypeId) (K : Keyed Try.prog k) (ht : Try.prog.underlying t = some (.map k e)) (b n : Nat) (f f' : Value → Option Value)
    (hm : a.eval m = .map (some b)) (h : MapV w k b n f) (hn : n < maxLen) (key val : Value) (hx : a.eval x = key) (hv : a.eval v = val) (hkey : ∃ kl, keyOf Try.prog k key = some kl)
    (hf1 : f' key = some val) (hf2 : ∀ y, y ≠ key → f' y = f y)
    (hK : ∀ w', MapV w' k b (n + 1) f' → Kept [some b] w w' → wpList Try.prog ops Q rest (a.put o.dst undef) w') :
    wpList Try.prog ops Q (o :: rest) a w := by
  obtain ⟨D, ho, hf⟩ := h
  obtain ⟨kl, hkl⟩ := hkey
  refine wpList_mapUpdate_own w hg m x v t hop k e K ht tokE b n D hm ho hn key val kl hx hv hkl (.held val) [] rfl (fun w' h1 h2 => hK w' ⟨_, h1, fun key' kl' hk' zd => ?_⟩ ⟨h2.os, h2.tape, h2.output, h2.size, fun j hj hne => h2.block j hj (fun e => hne (by simp [e]))⟩)
  by_cases e : kl' = kl
  · subst e
    obtain rfl := K.inj hk' hkl
    rw [Maps.atKey_put_same ho.isMap (K.key hkl), hf1]
    rfl
  · rw [Maps.atKey_put_other e, hf2 key' (fun e2 => e (by subst e2; rw [hk'] at hkl; cases hkl; rfl))]
    exact hf key' kl' hk' zd

theorem wpList_look_map (hg : o.guard = none) (t : TypeId) (m x : Operand) (hop : o.op = Op.lookup t m x false)
    (k e : TypeId) (K : Keyed Try.prog k) (ht : Try.prog.underlying t = some (.map k e)) (z : Value) (hz : (zeroValue e).run Try.prog w = .ok z w) (b n : Nat) (f : Value → Option Value)
    (hm : a.eval m = .map (some b)) (h : MapV w k b n f) (key : Value) (hx : a.eval x = key) (hkey : ∃ kl, keyOf Try.prog k key = some kl) (u : Value) (hu : (f key).getD z = u)
    (hK : wpList Try.prog ops Q rest (a.put o.dst u) w) :
    wpList Try.prog ops Q (o :: rest) a w := by
  obtain ⟨D, ho, hf⟩ := h
  obtain ⟨kl, hkl⟩ := hkey
  obtain ⟨v, ps, hrun, hv⟩ := ho.lookup K ht hz (zd := .held z) (zp := []) rfl hkl
  have hvu : v = u := by
    rw [hf key kl hkl] at hv
    simp only [tokE, Option.some.injEq, Prod.mk.injEq] at hv
    have h1 := hv.1
    rw [← hu]
    cases hfk : f key with
    | none => rw [hfk] at h1; simpa using h1
    | some y => rw [hfk] at h1; simpa using h1
  subst hvu
  refine wpList_plain hg fun K' hK' => ?_
  unfold Oper.wp
  simp [execOp, hop, hm, hx, hrun, Result.andThen]
  exact hK' _ _ hK

theorem wpList_look_ok_map (hg : o.guard = none) (t : TypeId) (m x : Operand) (hop : o.op = Op.lookup t m x true)
    (k e : TypeId) (K : Keyed Try.prog k) (ht : Try.prog.underlying t = some (.map k e)) (z : Value) (hz : (zeroValue e).run Try.prog w = .ok z w) (b n : Nat) (f : Value → Option Value)
    (hm : a.eval m = .map (some b)) (h : MapV w k b n f) (key : Value) (hx : a.eval x = key) (hkey : ∃ kl, keyOf Try.prog k key = some kl) (u : Value) (hu : (f key).getD z = u) (ok : Bool) (hok : (f key).isSome = ok)
    (hK : wpList Try.prog ops Q rest (a.put o.dst (.tuple #[u, .bool ok])) w) :
    wpList Try.prog ops Q (o :: rest) a w := by
  obtain ⟨D, ho, hf⟩ := h
  obtain ⟨kl, hkl⟩ := hkey
  obtain ⟨v, ps, hrun, hv⟩ := ho.look_ok K ht hz (zd := .held z) (zp := []) rfl hkl
  have hvu : v = u := by
    rw [hf key kl hkl] at hv
    simp only [tokE, Option.some.injEq, Prod.mk.injEq] at hv
    have h1 := hv.1
    rw [← hu]
    cases hfk : f key with
    | none => rw [hfk] at h1; simpa using h1
    | some y => rw [hfk] at h1; simpa using h1
  have hh : Maps.has D kl = ok := by
    rw [← hok]
    cases hfk : f key with
    | none => exact Maps.has_false_of_atKey (fun z => by rw [hf key kl hkl, hfk]; rfl)
    | some y => exact Maps.has_true_of_atKey (y := .held y) (fun z => by rw [hf key kl hkl, hfk]; rfl)
  subst hvu
  rw [hh] at hrun
  refine wpList_plain hg fun K' hK' => ?_
  unfold Oper.wp
  simp [execOp, hop, hm, hx, hrun, Result.andThen]
  exact hK' _ _ hK
end

/-! ### The two maps' keys -/
theorem laidOut : laidOutB Try.prog = true := by kernel_rfl
theorem key3 : Keyed Try.prog 3 := Maps.int_keyed Try.underlying3
theorem key76 : Keyed Try.prog 76 := Keyed.of_law (deep_law_laid laidOut (m := 2) (by omega) (of_decide_eq_true (by kernel_rfl)) (by kernel_rfl) (by kernel_rfl))
theorem type76 : Try.prog.keyType 76 = true := by kernel_rfl
theorem cellsOf76 : Try.prog.cellsOf 76 = 2 := by kernel_rfl
theorem cellsOf9 : Try.prog.cellsOf 9 = 1 := by kernel_rfl
theorem cellsOf3 : Try.prog.cellsOf 3 = 1 := by kernel_rfl
theorem deep : decide (0 < Try.prog.types.size) = true := by kernel_rfl
theorem depth : ∃ m, Try.prog.types.size = m + 1 := ⟨Try.prog.types.size - 1, by have := of_decide_eq_true deep; omega⟩
def keyV (s : ByteArray) (n : Int) : Value := .agg #[.string s, .int .i64 n]
theorem keyOf3 {n : Int} (h : (Lit.int .i64 n).wf = true) : ∃ kl, keyOf Try.prog 3 (.int .i64 n) = some kl := ⟨_, Maps.keyOf_int_mk Try.underlying3 h⟩
theorem keyOf76 {s : ByteArray} {n : Int} (hs : s.size ≤ maxLen) (h : (Lit.int .i64 n).wf = true) : ∃ kl, keyOf Try.prog 76 (keyV s n) = some kl := by
  obtain ⟨m, hm⟩ := depth
  have hf : Value.formed Try.prog 76 (keyV s n) = true := by simp [keyV, Value.formed, Try.underlying76, cellsOf76]
  have hl : ∃ ls, Try.prog.keyLits (Try.prog.types.size + 1) 76 (keyV s n).cells.toList = some ls := by
    rw [hm]
    simp [Program.keyLits, Try.underlying76, keyV, Value.cells, cellsOf76, cellsOf9, cellsOf3, Try.underlying9, Try.underlying3, hs, h]
  obtain ⟨ls, hls⟩ := hl
  refine ⟨.string (keyBytes ls), ?_⟩
  simp only [keyOf, Try.underlying76, type76, hf, hls, Bool.and_true, if_pos, Option.map_some]
theorem zero54 (w : World) : (zeroValue 54).run Try.prog w = .ok (.slice none 0 0) w := by kernel_rfl
theorem zero9 (w : World) : (zeroValue 9).run Try.prog w = .ok (.string ByteArray.empty) w := by kernel_rfl

/-! ### The last of a list that meets q -/
open Classical in
noncomputable def lastOf {α : Type} (q : α → Prop) (l : List α) : Option α := l.reverse.find? (fun x => decide (q x))
theorem lastOf_nil {α : Type} (q : α → Prop) : lastOf q [] = none := rfl
theorem lastOf_snoc_pos {α : Type} {q : α → Prop} {l : List α} {x : α} (h : q x) : lastOf q (l ++ [x]) = some x := by simp [lastOf, h]
theorem lastOf_snoc_neg {α : Type} {q : α → Prop} {l : List α} {x : α} (h : ¬ q x) : lastOf q (l ++ [x]) = lastOf q l := by simp [lastOf, h]
theorem lastOf_some {α : Type} {q : α → Prop} {l : List α} {x : α} (h : lastOf q l = some x) : q x ∧ x ∈ l := by
  have h1 := List.find?_some h
  have h2 := List.mem_of_find?_eq_some h
  exact ⟨by simpa using h1, by simpa using h2⟩

end Go.Proofs.Qxb6601940a
