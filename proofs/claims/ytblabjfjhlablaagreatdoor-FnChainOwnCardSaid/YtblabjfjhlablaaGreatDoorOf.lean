/- The closed facts of the row of FnChainOwn. -/
import Derived.Test.YtblabjfjhlablaaGreatDoorOr
namespace Go.Proofs.YtblabjfjhlablaaGreatDoor
open Go.ChangeShapes Go.WideShapes Go.ChangeAt Go.RowKit
theorem cown_f1 : (Rows.fnChainOwnRow.inPlace == Tryz.pinned.checked.prog.inPlace 5) = true := by kernel_rfl
theorem cown_f2 : (Rows.fnChainOwnRow.unfollowed == Tryz.pinned.checked.prog.unfollowed 5) = true := by kernel_rfl
theorem cown_f3 : (Rows.fnChainOwnRow.recurses == Tryz.pinned.checked.prog.recurses 5) = true := by kernel_rfl
theorem cown_f4 : (Rows.fnChainOwnRow.named == Tryz.pinned.checked.prog.varsNamed 5) = true := by kernel_rfl
theorem cown_facts : joinedFacts Tryz.pinned.checked.prog 5 Tryz.f5 (OpenSpec.ofChange Rows.fnChainOwnSpec).bare Rows.fnChainOwnRow = true := by
  unfold joinedFacts
  rw [cown_f1, cown_f2, cown_f3, cown_f4]
  kernel_rfl
end Go.Proofs.YtblabjfjhlablaaGreatDoor
