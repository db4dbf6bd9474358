/- The closed facts of the row of FnChainOrder. -/
import Derived.Test.YtblabjfjhlablaaGreatDoorPr
namespace Go.Proofs.YtblabjfjhlablaaGreatDoor
open Go.ChangeShapes Go.WideShapes Go.ChangeAt Go.RowKit
theorem cor_f1 : (Rows.fnChainOrderRow.inPlace == Tryz.pinned.checked.prog.inPlace 7) = true := by kernel_rfl
theorem cor_f2 : (Rows.fnChainOrderRow.unfollowed == Tryz.pinned.checked.prog.unfollowed 7) = true := by kernel_rfl
theorem cor_f3 : (Rows.fnChainOrderRow.recurses == Tryz.pinned.checked.prog.recurses 7) = true := by kernel_rfl
theorem cor_f4 : (Rows.fnChainOrderRow.named == Tryz.pinned.checked.prog.varsNamed 7) = true := by kernel_rfl
theorem cor_facts : joinedFacts Tryz.pinned.checked.prog 7 Tryz.f7 (OpenSpec.ofChange Rows.fnChainOrderSpec).bare Rows.fnChainOrderRow = true := by
  unfold joinedFacts
  rw [cor_f1, cor_f2, cor_f3, cor_f4]
  kernel_rfl
end Go.Proofs.YtblabjfjhlablaaGreatDoor
