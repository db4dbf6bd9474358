/- The closed facts of the row of FnChainURI. -/
import Derived.Test.YtblabjfjhlablaaGreatDoorUr
namespace Go.Proofs.YtblabjfjhlablaaGreatDoor
open Go.ChangeShapes Go.WideShapes Go.ChangeAt Go.RowKit
theorem uri_f1 : (Rows.fnChainURIRow.inPlace == Tryz.pinned.checked.prog.inPlace 6) = true := by kernel_rfl
theorem uri_f2 : (Rows.fnChainURIRow.unfollowed == Tryz.pinned.checked.prog.unfollowed 6) = true := by kernel_rfl
theorem uri_f3 : (Rows.fnChainURIRow.recurses == Tryz.pinned.checked.prog.recurses 6) = true := by kernel_rfl
theorem uri_f4 : (Rows.fnChainURIRow.named == Tryz.pinned.checked.prog.varsNamed 6) = true := by kernel_rfl
theorem uri_facts : joinedFacts Tryz.pinned.checked.prog 6 Tryz.f6 (OpenSpec.ofChange Rows.fnChainURISpec).bare Rows.fnChainURIRow = true := by
  unfold joinedFacts
  rw [uri_f1, uri_f2, uri_f3, uri_f4]
  kernel_rfl
end Go.Proofs.YtblabjfjhlablaaGreatDoor
