/- THE STATEMENT: FnChainIP holds: a chain of one certificate with one address and one with constraints is checked as the address is against these. Conditions: the row's own (the listed variables hold what the program's text lays; the card ties them to it). -/
import Derived.Test.YtblabjfjhlablaaGreatDoorJf
namespace Go.Proofs.YtblabjfjhlablaaGreatDoor
open Go.ChangeShapes Go.WideShapes Go.ChangeAt Go.RowKit
open Go.ChangeMaps (open_string shut_string)
theorem cip_said : Rows.FnChainIPSaid :=
  OpenClaim.holds_of_cond 8 Tryz.f8 rfl rfl rfl rfl rfl rfl rfl ⟨rfl, rfl, rfl, rfl, rfl⟩ rfl rfl rfl rfl rfl (by kernel_rfl) Tryz.func8 cip_facts
    (of_decide_eq_true (by kernel_rfl)) (by unfold Func.isWrapper; rw [if_neg (of_decide_eq_false (by kernel_rfl))]; exact ⟨rfl, rfl⟩)
    (fun os started H enc _ F => by rw [OpenClaim.pre_eq_preRow]; exact cip_lifted os started H enc F)
theorem cip_plain (f : FuncId) (fn : Func) (hf : Tryz.pinned.checked.prog.funcNamed "loop.example/pub-g03134/laws.FnChainIP" = some f) (hfn : Tryz.pinned.checked.prog.funcs[f]? = some fn) :
    false = Tryz.pinned.checked.prog.looks [] ∧ ∀ (j : Nat) t, fn.params[j]? = some t → Tryz.pinned.checked.prog.wantsStandIn t = false := by
  obtain rfl : f = 8 := Option.some.inj ((show Tryz.prog.funcNamed "loop.example/pub-g03134/laws.FnChainIP" = some 8 by kernel_rfl).symm.trans hf) |>.symm
  obtain rfl : fn = Tryz.f8 := (Option.some.inj (Tryz.func8.symm.trans hfn)).symm
  refine ⟨by kernel_rfl, fun j t ht => ?_⟩
  rw [Tryz.params8] at ht
  have ht := Array.mem_of_getElem? ht
  simp only [List.mem_toArray, List.mem_cons, List.not_mem_nil, or_false] at ht
  rcases ht with rfl | rfl | rfl
  · exact (show Tryz.prog.wantsStandIn 25 = false by kernel_rfl)
  · exact (show Tryz.prog.wantsStandIn 25 = false by kernel_rfl)
  · exact (show Tryz.prog.wantsStandIn 43 = false by kernel_rfl)
theorem fnChainIP_card : Rows.FnChainIPCardSaid :=
  Claim7.holds_tied_plain_at .later [] _ _ _ _ cip_said (fun _ h => by cases h) (by kernel_rfl) (fun _ h => by cases h) fnChainIP_row_tie rfl ⟨rfl, rfl⟩ (by kernel_rfl) rfl cip_plain (by kernel_rfl)
end Go.Proofs.YtblabjfjhlablaaGreatDoor
