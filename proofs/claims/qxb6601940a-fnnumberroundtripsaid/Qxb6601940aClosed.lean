/-
  OWN WORK: for the rows' closed facts, each as a lemma of its own, so that the kernel gives its memory back behind each.
  Those that read the cut's head word by word: its signs are taken by a law ('String.toList_ofList'), not reckoned by the kernel (65 s and 8 GB each, otherwise).
-/
import Derived.Test.Qxb6601940aRows
import Derived.WalkKit
import Derived.ProofKit
import Derived.OpenShut
namespace Go.Proofs.Qxb6601940a
theorem band {a b : Bool} (h1 : a = true) (h2 : b = true) : (a && b) = true := by rw [h1, h2]; rfl
theorem toList_of {s : String} {l : List Char} (h : s = String.ofList l) : s.toList = l := by rw [h]; exact String.toList_ofList
theorem head_of {α : Type} {l : List α} {x : α} (h : l.head? = some x) : ∃ r, l = x :: r := by
  cases l with
  | nil => cases h
  | cons y r => cases h; exact ⟨r, rfl⟩
theorem make_of {P : Program} {r : List (List Char)} (hr : behindMainWord (wordsSigns P.initOrder.toList) = "cut".toList :: r) : P.make = some .cut := by
  unfold Program.make; rw [hr]; rfl
theorem strip_cut (r : List (List Char)) : stripLifts liftWords ("cut".toList :: r) = ([], "cut".toList :: r) := by rfl
theorem enter_of {P : Program} {r : List (List Char)} (hr : behindMainWord (wordsSigns P.initOrder.toList) = "cut".toList :: r) (h1 : P.laysLater = false) (h2 : P.bearsReflect = false) (h3 : P.doorFits [] = true) : P.mayEnter = true := by
  unfold Program.mayEnter
  rw [hr]
  simp only [strip_cut, h1, h2, h3]
  rfl
theorem lifts_of {P : Program} {r : List (List Char)} (hr : behindMainWord (wordsSigns P.initOrder.toList) = "cut".toList :: r) : P.liftsFinal = false := by
  unfold Program.liftsFinal Program.headLifts
  rw [hr]
  simp only [strip_cut]
  rfl
set_option maxHeartbeats 0 in
set_option maxRecDepth 100000 in
theorem headCut : ∃ r, behindMainWord (wordsSigns Try.pinned.checked.prog.initOrder.toList) = "cut".toList :: r := by
  rw [toList_of (s := Try.pinned.checked.prog.initOrder) rfl]
  exact head_of (by kernel_rfl)
theorem closedEnter : Try.pinned.checked.prog.mayEnter = true := by
  obtain ⟨r, hr⟩ := headCut
  exact enter_of hr (by kernel_rfl) (by kernel_rfl) (by kernel_rfl)
end Go.Proofs.Qxb6601940a
