/-
  No cell of these rows narrows 'for every input' (looked for: loops, veiled, ifaces, maps, wideKeys, modest, calm, conditions, laid).
  DERIVED. THE GIVEN ROWS OF THIS SEAT. 9 by the template 'for every input the law returns true; each argument reads behind the call as it read before'; 0 by the template 'total and deterministic' (their statements: Qxb6601532aTotals.lean).
  GIVEN WITH THE SEED: the statements are not yours to turn. If you find one false, say at which input.
  Laid BY PROGRAM, IN A SANDBOX (cutbox-rows.mjs): the forced cells as the released guide's own fill.sh prints them over the translation 4b7ab0e1838ab05e… (all of the seat's roots in one cut). By AI agents, Wed Nov 11 2026. No macro, syntax, notation, axiom, sorry.
-/
import Derived.Test.Qxb6601532aChecked
import GoSem.Claim
import GoSem.ClaimJoined
import GoSem.ClaimMapViews
import Derived.JoinedTies
import Derived.KernelRfl
namespace Go.Proofs.Qxb6601532a
/- THE CELL 'sum', in the pinned program and in every row, IS THE sha256 OF THE DUMP (.gsa) THAT Qxb6601532aProg.lean LOADS. Nothing in Lean hashes anything: it is a label: what it is worth is what the hold of that sum in a sandbox is worth. -/
noncomputable def Try.pinned : Pinned := { name := "qxb6601532a", sum := "4b7ab0e1838ab05e5397fe78344cea996fb78902096df4cb3a6dee333c0d808d", checked := Try.checked }
namespace Rows
def none {H : Type} : Left H := { results := [], args := [] }

/-- 'zzlaws_exclude_b1.FnSegmentMatchesAgreesWithModel': WHATEVER THE INPUT: true; the input reads as it did. -/
def fnSegmentMatchesAgreesWithModelSpec : ChangeSpec := { name := "fnSegmentMatchesAgreesWithModel", fn := fun _ => fun
  | [d1, d2, d3] => { results := [.lit (.bool true)], args := [d1, d2, d3] }
  | _ => none }
def fnSegmentMatchesAgreesWithModelRow : OpenClaim := { program := "qxb6601532a", sum := "4b7ab0e1838ab05e5397fe78344cea996fb78902096df4cb3a6dee333c0d808d", func := "example.com/cairnfold/cairnfold/zzlaws_exclude_b1.FnSegmentMatchesAgreesWithModel", spec := "fnSegmentMatchesAgreesWithModel", apart := false }
def FnSegmentMatchesAgreesWithModelSaid : Prop := fnSegmentMatchesAgreesWithModelRow.holds Try.pinned (OpenSpec.ofChange fnSegmentMatchesAgreesWithModelSpec)

/-- ITS FALSE NEIGHBOUR: 'it returns false'. Refute it at one input. -/
def fnSegmentMatchesAgreesWithModelWrong : ChangeSpec := { name := "fnSegmentMatchesAgreesWithModel", fn := fun _ => fun
  | [d1, d2, d3] => { results := [.lit (.bool false)], args := [d1, d2, d3] }
  | _ => none }
def FnSegmentMatchesAgreesWithModelWrongFalsely : Prop := fnSegmentMatchesAgreesWithModelRow.holds Try.pinned (OpenSpec.ofChange fnSegmentMatchesAgreesWithModelWrong)

/-- 'zzlaws_exclude_b1.FnSegmentMatchesConcat': WHATEVER THE INPUT: true; the input reads as it did. -/
def fnSegmentMatchesConcatSpec : ChangeSpec := { name := "fnSegmentMatchesConcat", fn := fun _ => fun
  | [d1, d2, d3, d4, d5, d6] => { results := [.lit (.bool true)], args := [d1, d2, d3, d4, d5, d6] }
  | _ => none }
def fnSegmentMatchesConcatRow : OpenClaim := { program := "qxb6601532a", sum := "4b7ab0e1838ab05e5397fe78344cea996fb78902096df4cb3a6dee333c0d808d", func := "example.com/cairnfold/cairnfold/zzlaws_exclude_b1.FnSegmentMatchesConcat", spec := "fnSegmentMatchesConcat", apart := false }
def FnSegmentMatchesConcatSaid : Prop := fnSegmentMatchesConcatRow.holds Try.pinned (OpenSpec.ofChange fnSegmentMatchesConcatSpec)

/-- ITS FALSE NEIGHBOUR: 'it returns false'. Refute it at one input. -/
def fnSegmentMatchesConcatWrong : ChangeSpec := { name := "fnSegmentMatchesConcat", fn := fun _ => fun
  | [d1, d2, d3, d4, d5, d6] => { results := [.lit (.bool false)], args := [d1, d2, d3, d4, d5, d6] }
  | _ => none }
def FnSegmentMatchesConcatWrongFalsely : Prop := fnSegmentMatchesConcatRow.holds Try.pinned (OpenSpec.ofChange fnSegmentMatchesConcatWrong)

/-- 'zzlaws_exclude_b1.FnSegmentMatchesMonotoneInSets': WHATEVER THE INPUT: true; the input reads as it did. -/
def fnSegmentMatchesMonotoneInSetsSpec : ChangeSpec := { name := "fnSegmentMatchesMonotoneInSets", fn := fun _ => fun
  | [d1, d2, d3, d4] => { results := [.lit (.bool true)], args := [d1, d2, d3, d4] }
  | _ => none }
def fnSegmentMatchesMonotoneInSetsRow : OpenClaim := { program := "qxb6601532a", sum := "4b7ab0e1838ab05e5397fe78344cea996fb78902096df4cb3a6dee333c0d808d", func := "example.com/cairnfold/cairnfold/zzlaws_exclude_b1.FnSegmentMatchesMonotoneInSets", spec := "fnSegmentMatchesMonotoneInSets", apart := false }
def FnSegmentMatchesMonotoneInSetsSaid : Prop := fnSegmentMatchesMonotoneInSetsRow.holds Try.pinned (OpenSpec.ofChange fnSegmentMatchesMonotoneInSetsSpec)

/-- ITS FALSE NEIGHBOUR: 'it returns false'. Refute it at one input. -/
def fnSegmentMatchesMonotoneInSetsWrong : ChangeSpec := { name := "fnSegmentMatchesMonotoneInSets", fn := fun _ => fun
  | [d1, d2, d3, d4] => { results := [.lit (.bool false)], args := [d1, d2, d3, d4] }
  | _ => none }
def FnSegmentMatchesMonotoneInSetsWrongFalsely : Prop := fnSegmentMatchesMonotoneInSetsRow.holds Try.pinned (OpenSpec.ofChange fnSegmentMatchesMonotoneInSetsWrong)

/-- 'zzlaws_exclude_b1.FnMatchNamesAgreesWithModel': WHATEVER THE INPUT: true; the input reads as it did. -/
def fnMatchNamesAgreesWithModelSpec : ChangeSpec := { name := "fnMatchNamesAgreesWithModel", fn := fun _ => fun
  | [d1, d2, d3, d4] => { results := [.lit (.bool true)], args := [d1, d2, d3, d4] }
  | _ => none }
def fnMatchNamesAgreesWithModelRow : OpenClaim := { program := "qxb6601532a", sum := "4b7ab0e1838ab05e5397fe78344cea996fb78902096df4cb3a6dee333c0d808d", func := "example.com/cairnfold/cairnfold/zzlaws_exclude_b1.FnMatchNamesAgreesWithModel", spec := "fnMatchNamesAgreesWithModel", inPlace := ["internal/bytealg.IndexByteString"], apart := false }
def FnMatchNamesAgreesWithModelSaid : Prop := fnMatchNamesAgreesWithModelRow.holds Try.pinned (OpenSpec.ofChange fnMatchNamesAgreesWithModelSpec)

/-- ITS FALSE NEIGHBOUR: 'it returns false'. Refute it at one input. -/
def fnMatchNamesAgreesWithModelWrong : ChangeSpec := { name := "fnMatchNamesAgreesWithModel", fn := fun _ => fun
  | [d1, d2, d3, d4] => { results := [.lit (.bool false)], args := [d1, d2, d3, d4] }
  | _ => none }
def FnMatchNamesAgreesWithModelWrongFalsely : Prop := fnMatchNamesAgreesWithModelRow.holds Try.pinned (OpenSpec.ofChange fnMatchNamesAgreesWithModelWrong)

/-- 'zzlaws_exclude_b1.FnMatchNamesConcat': WHATEVER THE INPUT: true; the input reads as it did. -/
def fnMatchNamesConcatSpec : ChangeSpec := { name := "fnMatchNamesConcat", fn := fun _ => fun
  | [d1, d2, d3, d4, d5, d6, d7, d8] => { results := [.lit (.bool true)], args := [d1, d2, d3, d4, d5, d6, d7, d8] }
  | _ => none }
def fnMatchNamesConcatRow : OpenClaim := { program := "qxb6601532a", sum := "4b7ab0e1838ab05e5397fe78344cea996fb78902096df4cb3a6dee333c0d808d", func := "example.com/cairnfold/cairnfold/zzlaws_exclude_b1.FnMatchNamesConcat", spec := "fnMatchNamesConcat", inPlace := ["internal/bytealg.IndexByteString"], apart := false }
def FnMatchNamesConcatSaid : Prop := fnMatchNamesConcatRow.holds Try.pinned (OpenSpec.ofChange fnMatchNamesConcatSpec)

/-- ITS FALSE NEIGHBOUR: 'it returns false'. Refute it at one input. -/
def fnMatchNamesConcatWrong : ChangeSpec := { name := "fnMatchNamesConcat", fn := fun _ => fun
  | [d1, d2, d3, d4, d5, d6, d7, d8] => { results := [.lit (.bool false)], args := [d1, d2, d3, d4, d5, d6, d7, d8] }
  | _ => none }
def FnMatchNamesConcatWrongFalsely : Prop := fnMatchNamesConcatRow.holds Try.pinned (OpenSpec.ofChange fnMatchNamesConcatWrong)

/-- 'zzlaws_exclude_b1.FnMatchNamesGlobstarInsertKeepsMatch': WHATEVER THE INPUT: true; the input reads as it did. -/
def fnMatchNamesGlobstarInsertKeepsMatchSpec : ChangeSpec := { name := "fnMatchNamesGlobstarInsertKeepsMatch", fn := fun _ => fun
  | [d1, d2, d3, d4, d5] => { results := [.lit (.bool true)], args := [d1, d2, d3, d4, d5] }
  | _ => none }
def fnMatchNamesGlobstarInsertKeepsMatchRow : OpenClaim := { program := "qxb6601532a", sum := "4b7ab0e1838ab05e5397fe78344cea996fb78902096df4cb3a6dee333c0d808d", func := "example.com/cairnfold/cairnfold/zzlaws_exclude_b1.FnMatchNamesGlobstarInsertKeepsMatch", spec := "fnMatchNamesGlobstarInsertKeepsMatch", inPlace := ["internal/bytealg.IndexByteString"], apart := false }
def FnMatchNamesGlobstarInsertKeepsMatchSaid : Prop := fnMatchNamesGlobstarInsertKeepsMatchRow.holds Try.pinned (OpenSpec.ofChange fnMatchNamesGlobstarInsertKeepsMatchSpec)

/-- ITS FALSE NEIGHBOUR: 'it returns false'. Refute it at one input. -/
def fnMatchNamesGlobstarInsertKeepsMatchWrong : ChangeSpec := { name := "fnMatchNamesGlobstarInsertKeepsMatch", fn := fun _ => fun
  | [d1, d2, d3, d4, d5] => { results := [.lit (.bool false)], args := [d1, d2, d3, d4, d5] }
  | _ => none }
def FnMatchNamesGlobstarInsertKeepsMatchWrongFalsely : Prop := fnMatchNamesGlobstarInsertKeepsMatchRow.holds Try.pinned (OpenSpec.ofChange fnMatchNamesGlobstarInsertKeepsMatchWrong)

/-- 'zzlaws_exclude_b1.FnExcludesAgreesWithModel': WHATEVER THE INPUT: true; the input reads as it did. -/
def fnExcludesAgreesWithModelSpec : ChangeSpec := { name := "fnExcludesAgreesWithModel", fn := fun _ => fun
  | [d1, d2, d3, d4, d5, d6, d7, d8, d9] => { results := [.lit (.bool true)], args := [d1, d2, d3, d4, d5, d6, d7, d8, d9] }
  | _ => none }
def fnExcludesAgreesWithModelRow : OpenClaim := { program := "qxb6601532a", sum := "4b7ab0e1838ab05e5397fe78344cea996fb78902096df4cb3a6dee333c0d808d", func := "example.com/cairnfold/cairnfold/zzlaws_exclude_b1.FnExcludesAgreesWithModel", spec := "fnExcludesAgreesWithModel", inPlace := ["internal/bytealg.IndexByteString"], apart := false }
def FnExcludesAgreesWithModelSaid : Prop := fnExcludesAgreesWithModelRow.holds Try.pinned (OpenSpec.ofChange fnExcludesAgreesWithModelSpec)

/-- ITS FALSE NEIGHBOUR: 'it returns false'. Refute it at one input. -/
def fnExcludesAgreesWithModelWrong : ChangeSpec := { name := "fnExcludesAgreesWithModel", fn := fun _ => fun
  | [d1, d2, d3, d4, d5, d6, d7, d8, d9] => { results := [.lit (.bool false)], args := [d1, d2, d3, d4, d5, d6, d7, d8, d9] }
  | _ => none }
def FnExcludesAgreesWithModelWrongFalsely : Prop := fnExcludesAgreesWithModelRow.holds Try.pinned (OpenSpec.ofChange fnExcludesAgreesWithModelWrong)

/-- 'zzlaws_exclude_b1.FnExcludesLastLiteralDecides': WHATEVER THE INPUT: true; the input reads as it did. -/
def fnExcludesLastLiteralDecidesSpec : ChangeSpec := { name := "fnExcludesLastLiteralDecides", fn := fun _ => fun
  | [d1, d2, d3, d4, d5, d6, d7, d8, d9, d10, d11, d12] => { results := [.lit (.bool true)], args := [d1, d2, d3, d4, d5, d6, d7, d8, d9, d10, d11, d12] }
  | _ => none }
def fnExcludesLastLiteralDecidesRow : OpenClaim := { program := "qxb6601532a", sum := "4b7ab0e1838ab05e5397fe78344cea996fb78902096df4cb3a6dee333c0d808d", func := "example.com/cairnfold/cairnfold/zzlaws_exclude_b1.FnExcludesLastLiteralDecides", spec := "fnExcludesLastLiteralDecides", inPlace := ["internal/bytealg.IndexByteString"], apart := false }
def FnExcludesLastLiteralDecidesSaid : Prop := fnExcludesLastLiteralDecidesRow.holds Try.pinned (OpenSpec.ofChange fnExcludesLastLiteralDecidesSpec)

/-- ITS FALSE NEIGHBOUR: 'it returns false'. Refute it at one input. -/
def fnExcludesLastLiteralDecidesWrong : ChangeSpec := { name := "fnExcludesLastLiteralDecides", fn := fun _ => fun
  | [d1, d2, d3, d4, d5, d6, d7, d8, d9, d10, d11, d12] => { results := [.lit (.bool false)], args := [d1, d2, d3, d4, d5, d6, d7, d8, d9, d10, d11, d12] }
  | _ => none }
def FnExcludesLastLiteralDecidesWrongFalsely : Prop := fnExcludesLastLiteralDecidesRow.holds Try.pinned (OpenSpec.ofChange fnExcludesLastLiteralDecidesWrong)

/-- 'zzlaws_exclude_b1.FnExcludesDoublingKeepsAnswer': WHATEVER THE INPUT: true; the input reads as it did. -/
def fnExcludesDoublingKeepsAnswerSpec : ChangeSpec := { name := "fnExcludesDoublingKeepsAnswer", fn := fun _ => fun
  | [d1, d2, d3, d4, d5, d6, d7, d8, d9] => { results := [.lit (.bool true)], args := [d1, d2, d3, d4, d5, d6, d7, d8, d9] }
  | _ => none }
def fnExcludesDoublingKeepsAnswerRow : OpenClaim := { program := "qxb6601532a", sum := "4b7ab0e1838ab05e5397fe78344cea996fb78902096df4cb3a6dee333c0d808d", func := "example.com/cairnfold/cairnfold/zzlaws_exclude_b1.FnExcludesDoublingKeepsAnswer", spec := "fnExcludesDoublingKeepsAnswer", inPlace := ["internal/bytealg.IndexByteString"], apart := false }
def FnExcludesDoublingKeepsAnswerSaid : Prop := fnExcludesDoublingKeepsAnswerRow.holds Try.pinned (OpenSpec.ofChange fnExcludesDoublingKeepsAnswerSpec)

/-- ITS FALSE NEIGHBOUR: 'it returns false'. Refute it at one input. -/
def fnExcludesDoublingKeepsAnswerWrong : ChangeSpec := { name := "fnExcludesDoublingKeepsAnswer", fn := fun _ => fun
  | [d1, d2, d3, d4, d5, d6, d7, d8, d9] => { results := [.lit (.bool false)], args := [d1, d2, d3, d4, d5, d6, d7, d8, d9] }
  | _ => none }
def FnExcludesDoublingKeepsAnswerWrongFalsely : Prop := fnExcludesDoublingKeepsAnswerRow.holds Try.pinned (OpenSpec.ofChange fnExcludesDoublingKeepsAnswerWrong)

end Rows
end Go.Proofs.Qxb6601532a
