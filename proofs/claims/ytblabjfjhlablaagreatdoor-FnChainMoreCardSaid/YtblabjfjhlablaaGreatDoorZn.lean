/- THE STATEMENT: FnChainMore holds: a chain that is refused stays so with a certificate more behind it, or ahead of it; one without names and constraints changes nothing. Conditions: the row's own (the listed variables hold what the program's text lays; the card ties them to it). -/
import Derived.Test.YtblabjfjhlablaaGreatDoorZf
namespace Go.Proofs.YtblabjfjhlablaaGreatDoor
open Go.ChangeShapes Go.WideShapes Go.ChangeAt Go.RowKit
open Go.ChangeMaps (open_string shut_string)
theorem cmo_said : Rows.FnChainMoreSaid :=
  OpenClaim.holds_of_cond 10 Tryz.f10 rfl rfl rfl rfl rfl rfl rfl ⟨rfl, rfl, rfl, rfl, rfl⟩ rfl rfl rfl rfl rfl (by kernel_rfl) Tryz.func10 cmo_facts
    (of_decide_eq_true (by kernel_rfl)) (by unfold Func.isWrapper; rw [if_neg (of_decide_eq_false (by kernel_rfl))]; exact ⟨rfl, rfl⟩)
    (fun os started H enc _ F => by rw [OpenClaim.pre_eq_preRow]; exact cmo_lifted os started H enc F)
theorem cmo_plain (f : FuncId) (fn : Func) (hf : Tryz.pinned.checked.prog.funcNamed "loop.example/pub-g03134/laws.FnChainMore" = some f) (hfn : Tryz.pinned.checked.prog.funcs[f]? = some fn) :
    false = Tryz.pinned.checked.prog.looks [] ∧ ∀ (j : Nat) t, fn.params[j]? = some t → Tryz.pinned.checked.prog.wantsStandIn t = false := by
  obtain rfl : f = 10 := Option.some.inj ((show Tryz.prog.funcNamed "loop.example/pub-g03134/laws.FnChainMore" = some 10 by kernel_rfl).symm.trans hf) |>.symm
  obtain rfl : fn = Tryz.f10 := (Option.some.inj (Tryz.func10.symm.trans hfn)).symm
  refine ⟨by kernel_rfl, fun j t ht => ?_⟩
  rw [Tryz.params10] at ht
  have ht := Array.mem_of_getElem? ht
  simp only [List.mem_toArray, List.mem_cons, List.not_mem_nil, or_false] at ht
  rcases ht with rfl | rfl | rfl
  · exact (show Tryz.prog.wantsStandIn 37 = false by kernel_rfl)
  · exact (show Tryz.prog.wantsStandIn 30 = false by kernel_rfl)
  · exact (show Tryz.prog.wantsStandIn 5 = false by kernel_rfl)
theorem fnChainMore_card : Rows.FnChainMoreCardSaid :=
  Claim7.holds_tied_plain_at .later [] _ _ _ _ cmo_said (fun _ h => by cases h) (by kernel_rfl) (fun _ h => by cases h) fnChainMore_row_tie rfl ⟨rfl, rfl⟩ (by kernel_rfl) rfl cmo_plain (by kernel_rfl)
end Go.Proofs.YtblabjfjhlablaaGreatDoor
