/- The closed facts of the row of FnChainMail. -/
import Derived.Test.YtblabjfjhlablaaGreatDoorMr
namespace Go.Proofs.YtblabjfjhlablaaGreatDoor
open Go.ChangeShapes Go.WideShapes Go.ChangeAt Go.RowKit
theorem mail4_f1 : (Rows.fnChainMailRow.inPlace == Tryz.pinned.checked.prog.inPlace 4) = true := by kernel_rfl
theorem mail4_f2 : (Rows.fnChainMailRow.unfollowed == Tryz.pinned.checked.prog.unfollowed 4) = true := by kernel_rfl
theorem mail4_f3 : (Rows.fnChainMailRow.recurses == Tryz.pinned.checked.prog.recurses 4) = true := by kernel_rfl
theorem mail4_f4 : (Rows.fnChainMailRow.named == Tryz.pinned.checked.prog.varsNamed 4) = true := by kernel_rfl
theorem mail4_facts : joinedFacts Tryz.pinned.checked.prog 4 Tryz.f4 (OpenSpec.ofChange Rows.fnChainMailSpec).bare Rows.fnChainMailRow = true := by
  unfold joinedFacts
  rw [mail4_f1, mail4_f2, mail4_f3, mail4_f4]
  kernel_rfl
end Go.Proofs.YtblabjfjhlablaaGreatDoor
