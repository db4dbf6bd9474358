/- THE STATEMENT: FnChainOwn holds: a certificate's own constraints do not touch its own names: a chain of one is good. Conditions: the row's own (the listed variables hold what the program's text lays; the card ties them to it). -/
import Derived.Test.YtblabjfjhlablaaGreatDoorOf
namespace Go.Proofs.YtblabjfjhlablaaGreatDoor
open Go.ChangeShapes Go.WideShapes Go.ChangeAt Go.RowKit
open Go.ChangeMaps (open_string shut_string)
theorem cown_said : Rows.FnChainOwnSaid :=
  OpenClaim.holds_of_cond 5 Tryz.f5 rfl rfl rfl rfl rfl rfl rfl ⟨rfl, rfl, rfl, rfl, rfl⟩ rfl rfl rfl rfl rfl (by kernel_rfl) Tryz.func5 cown_facts
    (of_decide_eq_true (by kernel_rfl)) (by unfold Func.isWrapper; rw [if_neg (of_decide_eq_false (by kernel_rfl))]; exact ⟨rfl, rfl⟩)
    (fun os started H enc _ F => by rw [OpenClaim.pre_eq_preRow]; exact cown_lifted os started H enc F)
theorem cown_plain (f : FuncId) (fn : Func) (hf : Tryz.pinned.checked.prog.funcNamed "loop.example/pub-g03134/laws.FnChainOwn" = some f) (hfn : Tryz.pinned.checked.prog.funcs[f]? = some fn) :
    false = Tryz.pinned.checked.prog.looks [] ∧ ∀ (j : Nat) t, fn.params[j]? = some t → Tryz.pinned.checked.prog.wantsStandIn t = false := by
  obtain rfl : f = 5 := Option.some.inj ((show Tryz.prog.funcNamed "loop.example/pub-g03134/laws.FnChainOwn" = some 5 by kernel_rfl).symm.trans hf) |>.symm
  obtain rfl : fn = Tryz.f5 := (Option.some.inj (Tryz.func5.symm.trans hfn)).symm
  refine ⟨by kernel_rfl, fun j t ht => ?_⟩
  rw [Tryz.params5] at ht
  have ht := Array.mem_of_getElem? ht
  simp only [List.mem_toArray, List.mem_cons, List.not_mem_nil, or_false] at ht
  subst ht
  exact (show Tryz.prog.wantsStandIn 30 = false by kernel_rfl)
theorem fnChainOwn_card : Rows.FnChainOwnCardSaid :=
  Claim7.holds_tied_plain_at .later [] _ _ _ _ cown_said (fun _ h => by cases h) (by kernel_rfl) (fun _ h => by cases h) fnChainOwn_row_tie rfl ⟨rfl, rfl⟩ (by kernel_rfl) rfl cown_plain (by kernel_rfl)
end Go.Proofs.YtblabjfjhlablaaGreatDoor
