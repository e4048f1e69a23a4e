import Derived.Test.Qxb6601940aMvC
namespace Go.Proofs.Qxb6601940a
open Go.RowKit
set_option linter.unusedVariables false

theorem info51 : (Try.prog.info? 51).map (fun i => (i.zero, i.size, i.bytes)) = some (some (.agg #[.string ByteArray.empty, .int .i64 0, .string ByteArray.empty, .slice none 0 0]), 4, 64) := by kernel_rfl
theorem info58 : (Try.prog.info? 58).map (fun i => (i.zero, i.size, i.bytes)) = some (some (.agg #[.string ByteArray.empty, .int .i64 0, .string ByteArray.empty, .slice none 0 0]), 4, 64) := by kernel_rfl
theorem info53 : (Try.prog.info? 53).map (fun i => (i.zero, i.size, i.bytes)) = some (some (.agg #[.int .i64 0, .string ByteArray.empty, .string ByteArray.empty, .string ByteArray.empty]), 4, 56) := by kernel_rfl
theorem info56 : (Try.prog.info? 56).map (fun i => (i.zero, i.size, i.bytes)) = some (some (.agg #[.int .i64 0, .string ByteArray.empty, .string ByteArray.empty, .string ByteArray.empty]), 4, 56) := by kernel_rfl
theorem four51 : (Try.prog.info? 51).map (·.size) = some 4 := by kernel_rfl
theorem four53 : (Try.prog.info? 53).map (·.size) = some 4 := by kernel_rfl
theorem four56 : (Try.prog.info? 56).map (·.size) = some 4 := by kernel_rfl
theorem four58 : (Try.prog.info? 58).map (·.size) = some 4 := by kernel_rfl

theorem one4 {v0 v1 v2 v3 : Value} (h0 : v0.oneCell' = true) (h1 : v1.oneCell' = true) (h2 : v2.oneCell' = true) (h3 : v3.oneCell' = true) : (#[v0, v1, v2, v3] : Array Value).all (·.oneCell') = true := by simp [h0, h1, h2, h3]

/-- The store of a struct of four cells, at that operation alone. -/
theorem storeAt {ops : Array Oper} {rest : List Oper} {dst : Option Nat} {ty' : TypeId} {pos : String} {after : Array Edge} {a : Act} {w : World} {Q : Exit → Act → World → Prop} (ty : TypeId) (x y : Operand) (h4 : (Try.prog.info? ty).map (·.size) = some 4)
    (h : ∃ b o v0 v1 v2 v3, a.eval x = .pointer (some ⟨b, o, none⟩) ∧ a.eval y = .agg #[v0, v1, v2, v3] ∧ w.there b o 4 ∧ v0.oneCell' = true ∧ v1.oneCell' = true ∧ v2.oneCell' = true ∧ v3.oneCell' = true ∧ wpList Try.prog ops Q rest (a.put dst undef) (w.setCells b o [v0, v1, v2, v3])) :
    wpList Try.prog ops Q ({ dst := dst, op := .store ty x y, type := ty', pos := pos, after := after, guard := none } :: rest) a w := by
  obtain ⟨b, o, v0, v1, v2, v3, hx, hy, ht, h0, h1, h2, h3, hw⟩ := h
  exact wpList_store_mid rfl ty x y rfl b o _ hx hy ht h4 (one4 h0 h1 h2 h3) hw

theorem cells4 (w : World) (v0 v1 v2 v3 : Value) (t : TypeId) : (w.alloc (.cells #[v0, v1, v2, v3] t)).cell? ⟨w.heap.size, 0, none⟩ = some v0 ∧ (w.alloc (.cells #[v0, v1, v2, v3] t)).cell? ⟨w.heap.size, 1, none⟩ = some v1 ∧ (w.alloc (.cells #[v0, v1, v2, v3] t)).cell? ⟨w.heap.size, 2, none⟩ = some v2 ∧ (w.alloc (.cells #[v0, v1, v2, v3] t)).cell? ⟨w.heap.size, 3, none⟩ = some v3 := by
  have hn := heap_alloc_new w (.cells #[v0, v1, v2, v3] t)
  exact ⟨cell_of_row _ _ 0 _ t (0, 0) hn, cell_of_row _ _ 1 _ t (0, 0) hn, cell_of_row _ _ 2 _ t (0, 0) hn, cell_of_row _ _ 3 _ t (0, 0) hn⟩

end Go.Proofs.Qxb6601940a
