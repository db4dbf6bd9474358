/- The closed facts of the row of FnChainIP. -/
import Derived.Test.YtblabjfjhlablaaGreatDoorJr
namespace Go.Proofs.YtblabjfjhlablaaGreatDoor
open Go.ChangeShapes Go.WideShapes Go.ChangeAt Go.RowKit
theorem cip_f1 : (Rows.fnChainIPRow.inPlace == Tryz.pinned.checked.prog.inPlace 8) = true := by kernel_rfl
theorem cip_f2 : (Rows.fnChainIPRow.unfollowed == Tryz.pinned.checked.prog.unfollowed 8) = true := by kernel_rfl
theorem cip_f3 : (Rows.fnChainIPRow.recurses == Tryz.pinned.checked.prog.recurses 8) = true := by kernel_rfl
theorem cip_f4 : (Rows.fnChainIPRow.named == Tryz.pinned.checked.prog.varsNamed 8) = true := by kernel_rfl
theorem cip_facts : joinedFacts Tryz.pinned.checked.prog 8 Tryz.f8 (OpenSpec.ofChange Rows.fnChainIPSpec).bare Rows.fnChainIPRow = true := by
  unfold joinedFacts
  rw [cip_f1, cip_f2, cip_f3, cip_f4]
  kernel_rfl
end Go.Proofs.YtblabjfjhlablaaGreatDoor
