import Derived.Test.Qxb6600123aLift
import Derived.Test.Qxb6600123aHead
namespace Go.Proofs.Qxb6600123a.scan
open Go.ChangeShapes Go.WideShapes Go.ChangeAt Go.RowKit

theorem closed : joinedFacts Try.prog 3 Try.f3 Rows.fnFirstOverMatchesSortedScanSpec Rows.fnFirstOverMatchesSortedScanRow = true := by
  unfold joinedFacts
  exact band (band (band (band (band (band (band (by kernel_rfl) fact_enter) (by rw [fact_lifts]; kernel_rfl)) (by rw [fact_make]; kernel_rfl)) (by kernel_rfl)) (by kernel_rfl)) (by kernel_rfl)) (by kernel_rfl)

theorem over : Rows.fnFirstOverMatchesSortedScanRow.holds Try.pinned (OpenSpec.ofChange Rows.fnFirstOverMatchesSortedScanSpec) :=
  OpenClaim.holds_of_wide 3 Try.f3 rfl rfl rfl rfl rfl rfl rfl ⟨rfl, rfl, rfl, rfl, rfl⟩ rfl rfl rfl rfl rfl (by kernel_rfl) Try.func3 closed
    (of_decide_eq_true (by kernel_rfl)) (by unfold Func.isWrapper; first | (rw [if_pos (by decide +kernel)]; kernel_rfl) | (rw [if_neg (by decide +kernel)]; exact ⟨rfl, rfl⟩))
    (fun os started H enc _ => lifted os started H enc)
end Go.Proofs.Qxb6600123a.scan

namespace Go.Proofs.Qxb6600123a
/-- the statement -/
theorem firstOver_proved : Rows.FnFirstOverMatchesSortedScanSaid := scan.over
end Go.Proofs.Qxb6600123a
