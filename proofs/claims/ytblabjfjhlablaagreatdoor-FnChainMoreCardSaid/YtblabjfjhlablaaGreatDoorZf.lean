/- The closed facts of the row of FnChainMore. -/
import Derived.Test.YtblabjfjhlablaaGreatDoorZr
namespace Go.Proofs.YtblabjfjhlablaaGreatDoor
open Go.ChangeShapes Go.WideShapes Go.ChangeAt Go.RowKit
theorem cmo_f1 : (Rows.fnChainMoreRow.inPlace == Tryz.pinned.checked.prog.inPlace 10) = true := by kernel_rfl
theorem cmo_f2 : (Rows.fnChainMoreRow.unfollowed == Tryz.pinned.checked.prog.unfollowed 10) = true := by kernel_rfl
theorem cmo_f3 : (Rows.fnChainMoreRow.recurses == Tryz.pinned.checked.prog.recurses 10) = true := by kernel_rfl
theorem cmo_f4 : (Rows.fnChainMoreRow.named == Tryz.pinned.checked.prog.varsNamed 10) = true := by kernel_rfl
theorem cmo_facts : joinedFacts Tryz.pinned.checked.prog 10 Tryz.f10 (OpenSpec.ofChange Rows.fnChainMoreSpec).bare Rows.fnChainMoreRow = true := by
  unfold joinedFacts
  rw [cmo_f1, cmo_f2, cmo_f3, cmo_f4]
  kernel_rfl
end Go.Proofs.YtblabjfjhlablaaGreatDoor
