import Derived.Test.Qxb6601532aRows
import Derived.Test.Qxb6601532aKit
import Derived.Test.Qxb6601532aPlain
import Derived.BigQuiet
import Derived.Deep.MidRow
namespace Go.Proofs.Qxb6601532a
open Go.RowKit

theorem Try.info4 : (Try.prog.info? 4).map (fun i => (i.zero, i.size, i.bytes)) = some (some (.bool false), 1, 1) := by kernel_rfl
theorem Try.info31 : (Try.prog.info? 31).map (fun i => (i.zero, i.size, i.bytes)) = some (some (.agg (Array.replicate 256 (.bool false))), 256, 256) := by kernel_rfl
theorem Try.info79 : (Try.prog.info? 79).map (fun i => (i.zero, i.size, i.bytes)) = some (some (.agg #[.bool false, .pointer none]), 2, 16) := by kernel_rfl
theorem Try.size31 : (Try.prog.info? 31).map (·.size) = some 256 := by kernel_rfl
theorem Try.size80 : (Try.prog.info? 80).map (·.size) = some 256 := by kernel_rfl
end Go.Proofs.Qxb6601532a
