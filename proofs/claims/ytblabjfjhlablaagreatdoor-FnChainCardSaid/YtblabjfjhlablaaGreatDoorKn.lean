/- THE STATEMENT: FnChain holds: a chain is refused just where some name of a certificate is by the constraints of a certificate behind it. Conditions: the row's own (the listed variables hold what the program's text lays; the card ties them to it). -/
import Derived.Test.YtblabjfjhlablaaGreatDoorKf
namespace Go.Proofs.YtblabjfjhlablaaGreatDoor
open Go.ChangeShapes Go.WideShapes Go.ChangeAt Go.RowKit
open Go.ChangeMaps (open_string shut_string)
theorem cch_said : Rows.FnChainSaid :=
  OpenClaim.holds_of_cond 9 Tryz.f9 rfl rfl rfl rfl rfl rfl rfl ⟨rfl, rfl, rfl, rfl, rfl⟩ rfl rfl rfl rfl rfl (by kernel_rfl) Tryz.func9 cch_facts
    (of_decide_eq_true (by kernel_rfl)) (by unfold Func.isWrapper; rw [if_neg (of_decide_eq_false (by kernel_rfl))]; exact ⟨rfl, rfl⟩)
    (fun os started H enc _ F => by rw [OpenClaim.pre_eq_preRow]; exact cch_lifted os started H enc F)
theorem cch_plain (f : FuncId) (fn : Func) (hf : Tryz.pinned.checked.prog.funcNamed "loop.example/pub-g03134/laws.FnChain" = some f) (hfn : Tryz.pinned.checked.prog.funcs[f]? = some fn) :
    false = Tryz.pinned.checked.prog.looks [] ∧ ∀ (j : Nat) t, fn.params[j]? = some t → Tryz.pinned.checked.prog.wantsStandIn t = false := by
  obtain rfl : f = 9 := Option.some.inj ((show Tryz.prog.funcNamed "loop.example/pub-g03134/laws.FnChain" = some 9 by kernel_rfl).symm.trans hf) |>.symm
  obtain rfl : fn = Tryz.f9 := (Option.some.inj (Tryz.func9.symm.trans hfn)).symm
  refine ⟨by kernel_rfl, fun j t ht => ?_⟩
  rw [Tryz.params9] at ht
  have ht := Array.mem_of_getElem? ht
  simp only [List.mem_toArray, List.mem_cons, List.not_mem_nil, or_false] at ht
  subst ht
  exact (show Tryz.prog.wantsStandIn 37 = false by kernel_rfl)
theorem fnChain_card : Rows.FnChainCardSaid :=
  Claim7.holds_tied_plain_at .later [] _ _ _ _ cch_said (fun _ h => by cases h) (by kernel_rfl) (fun _ h => by cases h) fnChain_row_tie rfl ⟨rfl, rfl⟩ (by kernel_rfl) rfl cch_plain (by kernel_rfl)
end Go.Proofs.YtblabjfjhlablaaGreatDoor
