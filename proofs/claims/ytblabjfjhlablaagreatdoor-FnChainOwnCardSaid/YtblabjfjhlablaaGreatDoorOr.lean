/- The row of FnChainOwn, lifted to its walk. -/
import Derived.Test.YtblabjfjhlablaaGreatDoorCards
import Derived.Test.YtblabjfjhlablaaGreatDoorTie
import Derived.Test.YtblabjfjhlablaaGreatDoorRd
import Derived.WalkKit
namespace Go.Proofs.YtblabjfjhlablaaGreatDoor
open Go.ChangeShapes Go.WideShapes Go.ChangeAt Go.RowKit
open Go.ChangeMaps (open_string shut_string)
def nilCert : Value := .agg #[.slice none 0 0, .slice none 0 0, .slice none 0 0, .slice none 0 0, .slice none 0 0, .slice none 0 0, .slice none 0 0, .slice none 0 0, .slice none 0 0, .slice none 0 0, .slice none 0 0, .slice none 0 0]
theorem cown_reads (os : Os) {H : Type} (enc : TypeId × Value → H) : ∃ places, DataW.whole enc Tryz.prog ((laidWorld os).forCall (fun _ _ => 0) ⟨#[], #[nilCert], []⟩).memory Tryz.f5.params.toList Rows.fnChainOwnSpec.vars false #[nilCert].toList 8 = some ([.agg [.agg [.nil, .nil, .nil, .nil], .agg [.nil, .nil, .nil, .nil], .nil, .nil, .nil, .nil]], [], places) :=
  ⟨[], by kernel_rfl⟩
set_option maxRecDepth 100000 in
theorem cown_lifted (os : Os) (started : os.Started) (H : Type) (enc : TypeId × Value → H) (F : Stop.Interp) :
    ReturnsInHanded {} Tryz.checked os 5 .any ((OpenSpec.ofChange Rows.fnChainOwnSpec).preRow enc Tryz.prog Tryz.f5 Rows.fnChainOwnRow.domain false Rows.fnChainOwnRow.laid) (((OpenSpec.ofChange Rows.fnChainOwnSpec).at F).post enc Tryz.prog Tryz.f5 false true false false) := by
  obtain ⟨places, hx⟩ := cown_reads os enc
  refine returnsInHanded_of_row (C := Tryz.checked) (s := OpenSpec.ofChange Rows.fnChainOwnSpec) own started (by kernel_rfl) Tryz.func5
    (witness_row_atRef (enc := enc) (C := Tryz.checked) false (laidWorld os) #[nilCert] rfl (by kernel_rfl) (by kernel_rfl) (by kernel_rfl)
      (OpenSpec.preRow_of_cond 8 hx (by kernel_rfl) (fun k hk => by cases hk) (by kernel_rfl) (laid_met os _))) ?_
  intro W base args ds gs before hval0 hW _ _ hsz0 hL _ _
  have hsz : (DataW.weightsEach Tryz.prog (Tryz.f5.params.toList ++ (OpenSpec.ofChange Rows.fnChainOwnSpec).bare.plain.varTypes Tryz.prog) (ds ++ gs)).all (· ≤ reachBytes) = true := hsz0
  have hval : ∀ (j : Nat) t v, Tryz.f5.params[j]? = some t → args[j]? = some v → Value.okWide Tryz.prog W .any base t v := hval0
  have hL' : Laid W := laid_of hL
  clear hsz0 hval0
  have hW' := hW
  obtain ⟨p, q, hA0, hV0, rfl, _, _⟩ := hW
  have hA : DataW.TrodAll enc Tryz.prog W 0 (fun _ => true) true Tryz.f5.params.toList args.toList ds p := hA0
  rw [Tryz.params5] at hA hval hsz
  obtain ⟨v0, d0, rfl, rfl, h0⟩ := trodAll_one hA
  obtain ⟨rfl, rfl⟩ := trodVars_none hV0
  obtain ⟨cs, rfl, _⟩ := okWide_struct Tryz.underlying30 (hval 0 30 v0 rfl rfl)
  have h0k := h0
  obtain ⟨fuel0, hf0⟩ := h0
  clear hA0 hV0
  simp only [List.append_nil] at hW' hsz
  have hlt : ∀ x ∈ p, x.block < W.heap.size := fun x hx => by simpa using hW'.lt x (by simpa using hx)
  have hw0 : Light 30 d0 := fun n hn => by simpa using List.all_eq_true.1 hsz n (DataW.weights_mem_each (j := 0) rfl rfl n hn)
  obtain ⟨z, c, hc, hr, hs⟩ := read_cert hf0 hw0
  have hcs : cs = z.cells c := Array.toList_inj.1 hc
  subst hcs
  refine (fnChainOwn_calls z c W hL' hr hs).mono ?_
  rintro e W' ⟨rfl, bel⟩
  refine ⟨_, rfl, _, _, _, [], p, [], hW', ?_, ?_, ?_, bel.frame _, fun h => by cases h⟩
  · exact trodAll_mk1 (shut_bool Tryz.underlying4 _)
  · exact trodAll_mk1 (Below.trod laidOut (by kernel_rfl) (of_decide_eq_true (by kernel_rfl)) h0k bel (fun x hx => hlt x (by simp [hx])))
  · exact rfl
end Go.Proofs.YtblabjfjhlablaaGreatDoor
