/- The closed facts of the row of FnChain. -/
import Derived.Test.YtblabjfjhlablaaGreatDoorKr
namespace Go.Proofs.YtblabjfjhlablaaGreatDoor
open Go.ChangeShapes Go.WideShapes Go.ChangeAt Go.RowKit
theorem cch_f1 : (Rows.fnChainRow.inPlace == Tryz.pinned.checked.prog.inPlace 9) = true := by kernel_rfl
theorem cch_f2 : (Rows.fnChainRow.unfollowed == Tryz.pinned.checked.prog.unfollowed 9) = true := by kernel_rfl
theorem cch_f3 : (Rows.fnChainRow.recurses == Tryz.pinned.checked.prog.recurses 9) = true := by kernel_rfl
theorem cch_f4 : (Rows.fnChainRow.named == Tryz.pinned.checked.prog.varsNamed 9) = true := by kernel_rfl
theorem cch_facts : joinedFacts Tryz.pinned.checked.prog 9 Tryz.f9 (OpenSpec.ofChange Rows.fnChainSpec).bare Rows.fnChainRow = true := by
  unfold joinedFacts
  rw [cch_f1, cch_f2, cch_f3, cch_f4]
  kernel_rfl
end Go.Proofs.YtblabjfjhlablaaGreatDoor
