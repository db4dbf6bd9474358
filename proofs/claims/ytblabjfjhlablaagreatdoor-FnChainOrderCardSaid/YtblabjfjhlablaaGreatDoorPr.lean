/- The row of FnChainOrder, lifted to its walk. -/
import Derived.Test.YtblabjfjhlablaaGreatDoorCards
import Derived.Test.YtblabjfjhlablaaGreatDoorTie
import Derived.Test.YtblabjfjhlablaaGreatDoorOc
import Derived.WalkKit
namespace Go.Proofs.YtblabjfjhlablaaGreatDoor
open Go.ChangeShapes Go.WideShapes Go.ChangeAt Go.RowKit
open Go.ChangeMaps (open_string shut_string)
theorem cor_reads (os : Os) {H : Type} (enc : TypeId × Value → H) : ∃ places, DataW.whole enc Tryz.prog ((laidWorld os).forCall (fun _ _ => 0) ⟨#[], #[.slice none 0 0, .bool false], []⟩).memory Tryz.f7.params.toList Rows.fnChainOrderSpec.vars false #[Value.slice none 0 0, Value.bool false].toList 8 = some ([.nil, .lit (.bool false)], [], places) :=
  ⟨[], by kernel_rfl⟩
set_option maxRecDepth 100000 in
theorem cor_lifted (os : Os) (started : os.Started) (H : Type) (enc : TypeId × Value → H) (F : Stop.Interp) :
    ReturnsInHanded {} Tryz.checked os 7 .any ((OpenSpec.ofChange Rows.fnChainOrderSpec).preRow enc Tryz.prog Tryz.f7 Rows.fnChainOrderRow.domain false Rows.fnChainOrderRow.laid) (((OpenSpec.ofChange Rows.fnChainOrderSpec).at F).post enc Tryz.prog Tryz.f7 false true false false) := by
  obtain ⟨places, hx⟩ := cor_reads os enc
  refine returnsInHanded_of_row (C := Tryz.checked) (s := OpenSpec.ofChange Rows.fnChainOrderSpec) own started (by kernel_rfl) Tryz.func7
    (witness_row_atRef (enc := enc) (C := Tryz.checked) false (laidWorld os) #[.slice none 0 0, .bool false] rfl (by kernel_rfl) (by kernel_rfl) (by kernel_rfl)
      (OpenSpec.preRow_of_cond 8 hx (by kernel_rfl) (fun k hk => by cases hk) (by kernel_rfl) (laid_met os _))) ?_
  intro W base args ds gs before hval0 hW _ _ hsz0 hL _ _
  have hsz : (DataW.weightsEach Tryz.prog (Tryz.f7.params.toList ++ (OpenSpec.ofChange Rows.fnChainOrderSpec).bare.plain.varTypes Tryz.prog) (ds ++ gs)).all (· ≤ reachBytes) = true := hsz0
  have hval : ∀ (j : Nat) t v, Tryz.f7.params[j]? = some t → args[j]? = some v → Value.okWide Tryz.prog W .any base t v := hval0
  have hL' : Laid W := laid_of hL
  clear hsz0 hval0
  have hW' := hW
  obtain ⟨p, q, hA0, hV0, rfl, _, _⟩ := hW
  have hA : DataW.TrodAll enc Tryz.prog W 0 (fun _ => true) true Tryz.f7.params.toList args.toList ds p := hA0
  rw [Tryz.params7] at hA hval hsz
  obtain ⟨v0, v1, d0, d1, p0, p1, rfl, rfl, rfl, h0, h1⟩ := trodAll_two hA
  obtain ⟨rfl, rfl⟩ := trodVars_none hV0
  obtain ⟨a0, n0, c0, rfl⟩ := okWide_slice Tryz.underlying37 (hval 0 37 v0 rfl rfl)
  obtain ⟨b1, rfl⟩ := okWide_bool Tryz.underlying4 (hval 1 4 v1 rfl rfl)
  have h0k := h0
  have h1k := h1
  obtain ⟨fuel0, hf0⟩ := h0
  clear hA0 hV0
  simp only [List.append_nil] at hW' hsz
  have hlt : ∀ x ∈ p0 ++ p1, x.block < W.heap.size := fun x hx => by simpa using hW'.lt x (by simpa using hx)
  have hw0 : Light 37 d0 := fun n hn => by simpa using List.all_eq_true.1 hsz n (DataW.weights_mem_each (j := 0) rfl rfl n hn)
  obtain ⟨A, n, c, ks, zs, e0, hn, hr, hs⟩ := read_chain hf0 hw0
  simp [Value.cells] at e0
  obtain ⟨rfl, rfl, rfl⟩ := e0
  refine (fnChainOrder_calls _ _ _ b1 ks zs W hL' hr hn hs).mono ?_
  rintro e W' ⟨rfl, bel⟩
  refine ⟨_, rfl, _, _, _, [], p0 ++ p1, [], hW', ?_, ?_, ?_, bel.frame _, fun h => by cases h⟩
  · exact trodAll_mk1 (shut_bool Tryz.underlying4 _)
  · exact trodAll_mk2 (Below.trod laidOut (by kernel_rfl) (of_decide_eq_true (by kernel_rfl)) h0k bel (fun x hx => hlt x (by simp [hx]))) (Below.trod laidOut (by kernel_rfl) (of_decide_eq_true (by kernel_rfl)) h1k bel (fun x hx => hlt x (by simp [hx])))
  · exact rfl
end Go.Proofs.YtblabjfjhlablaaGreatDoor
