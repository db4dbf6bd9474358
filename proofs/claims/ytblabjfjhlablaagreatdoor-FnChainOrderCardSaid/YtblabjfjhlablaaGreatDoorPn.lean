/- THE STATEMENT: FnChainOrder holds: in which order names and constraints of a certificate stand makes no difference, nor how often. Conditions: the row's own (the listed variables hold what the program's text lays; the card ties them to it). -/
import Derived.Test.YtblabjfjhlablaaGreatDoorPf
namespace Go.Proofs.YtblabjfjhlablaaGreatDoor
open Go.ChangeShapes Go.WideShapes Go.ChangeAt Go.RowKit
open Go.ChangeMaps (open_string shut_string)
theorem cor_said : Rows.FnChainOrderSaid :=
  OpenClaim.holds_of_cond 7 Tryz.f7 rfl rfl rfl rfl rfl rfl rfl ⟨rfl, rfl, rfl, rfl, rfl⟩ rfl rfl rfl rfl rfl (by kernel_rfl) Tryz.func7 cor_facts
    (of_decide_eq_true (by kernel_rfl)) (by unfold Func.isWrapper; rw [if_neg (of_decide_eq_false (by kernel_rfl))]; exact ⟨rfl, rfl⟩)
    (fun os started H enc _ F => by rw [OpenClaim.pre_eq_preRow]; exact cor_lifted os started H enc F)
theorem cor_plain (f : FuncId) (fn : Func) (hf : Tryz.pinned.checked.prog.funcNamed "loop.example/pub-g03134/laws.FnChainOrder" = some f) (hfn : Tryz.pinned.checked.prog.funcs[f]? = some fn) :
    false = Tryz.pinned.checked.prog.looks [] ∧ ∀ (j : Nat) t, fn.params[j]? = some t → Tryz.pinned.checked.prog.wantsStandIn t = false := by
  obtain rfl : f = 7 := Option.some.inj ((show Tryz.prog.funcNamed "loop.example/pub-g03134/laws.FnChainOrder" = some 7 by kernel_rfl).symm.trans hf) |>.symm
  obtain rfl : fn = Tryz.f7 := (Option.some.inj (Tryz.func7.symm.trans hfn)).symm
  refine ⟨by kernel_rfl, fun j t ht => ?_⟩
  rw [Tryz.params7] at ht
  have ht := Array.mem_of_getElem? ht
  simp only [List.mem_toArray, List.mem_cons, List.not_mem_nil, or_false] at ht
  rcases ht with rfl | rfl
  · exact (show Tryz.prog.wantsStandIn 37 = false by kernel_rfl)
  · exact (show Tryz.prog.wantsStandIn 4 = false by kernel_rfl)
theorem fnChainOrder_card : Rows.FnChainOrderCardSaid :=
  Claim7.holds_tied_plain_at .later [] _ _ _ _ cor_said (fun _ h => by cases h) (by kernel_rfl) (fun _ h => by cases h) fnChainOrder_row_tie rfl ⟨rfl, rfl⟩ (by kernel_rfl) rfl cor_plain (by kernel_rfl)
end Go.Proofs.YtblabjfjhlablaaGreatDoor
