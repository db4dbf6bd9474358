/- The closed facts of the row of FnChainDNS. -/
import Derived.Test.YtblabjfjhlablaaGreatDoorDr
namespace Go.Proofs.YtblabjfjhlablaaGreatDoor
open Go.ChangeShapes Go.WideShapes Go.ChangeAt Go.RowKit
theorem dns_f1 : (Rows.fnChainDNSRow.inPlace == Tryz.pinned.checked.prog.inPlace 3) = true := by kernel_rfl
theorem dns_f2 : (Rows.fnChainDNSRow.unfollowed == Tryz.pinned.checked.prog.unfollowed 3) = true := by kernel_rfl
theorem dns_f3 : (Rows.fnChainDNSRow.recurses == Tryz.pinned.checked.prog.recurses 3) = true := by kernel_rfl
theorem dns_f4 : (Rows.fnChainDNSRow.named == Tryz.pinned.checked.prog.varsNamed 3) = true := by kernel_rfl
theorem dns_facts : joinedFacts Tryz.pinned.checked.prog 3 Tryz.f3 (OpenSpec.ofChange Rows.fnChainDNSSpec).bare Rows.fnChainDNSRow = true := by
  unfold joinedFacts
  rw [dns_f1, dns_f2, dns_f3, dns_f4]
  kernel_rfl
end Go.Proofs.YtblabjfjhlablaaGreatDoor
