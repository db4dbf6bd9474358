/- The row of FnChainMore, lifted to its walk. -/
import Derived.Test.YtblabjfjhlablaaGreatDoorCards
import Derived.Test.YtblabjfjhlablaaGreatDoorTie
import Derived.Test.YtblabjfjhlablaaGreatDoorMe
import Derived.WalkKit
namespace Go.Proofs.YtblabjfjhlablaaGreatDoor
open Go.ChangeShapes Go.WideShapes Go.ChangeAt Go.RowKit
open Go.ChangeMaps (open_string shut_string)
def nilCertM : Value := .agg #[.slice none 0 0, .slice none 0 0, .slice none 0 0, .slice none 0 0, .slice none 0 0, .slice none 0 0, .slice none 0 0, .slice none 0 0, .slice none 0 0, .slice none 0 0, .slice none 0 0, .slice none 0 0]
theorem cmo_reads (os : Os) {H : Type} (enc : TypeId × Value → H) : ∃ places, DataW.whole enc Tryz.prog ((laidWorld os).forCall (fun _ _ => 0) ⟨#[], #[.slice none 0 0, nilCertM, .int .u8 0], []⟩).memory Tryz.f10.params.toList Rows.fnChainMoreSpec.vars false #[Value.slice none 0 0, nilCertM, .int .u8 0].toList 8 = some ([.nil, .agg [.agg [.nil, .nil, .nil, .nil], .agg [.nil, .nil, .nil, .nil], .nil, .nil, .nil, .nil], .lit (.int .u8 0)], [], places) :=
  ⟨[], by kernel_rfl⟩
set_option maxRecDepth 100000 in
theorem cmo_lifted (os : Os) (started : os.Started) (H : Type) (enc : TypeId × Value → H) (F : Stop.Interp) :
    ReturnsInHanded {} Tryz.checked os 10 .any ((OpenSpec.ofChange Rows.fnChainMoreSpec).preRow enc Tryz.prog Tryz.f10 Rows.fnChainMoreRow.domain false Rows.fnChainMoreRow.laid) (((OpenSpec.ofChange Rows.fnChainMoreSpec).at F).post enc Tryz.prog Tryz.f10 false true false false) := by
  obtain ⟨places, hx⟩ := cmo_reads os enc
  refine returnsInHanded_of_row (C := Tryz.checked) (s := OpenSpec.ofChange Rows.fnChainMoreSpec) own started (by kernel_rfl) Tryz.func10
    (witness_row_atRef (enc := enc) (C := Tryz.checked) false (laidWorld os) #[.slice none 0 0, nilCertM, .int .u8 0] rfl (by kernel_rfl) (by kernel_rfl) (by kernel_rfl)
      (OpenSpec.preRow_of_cond 8 hx (by kernel_rfl) (fun k hk => by cases hk) (by kernel_rfl) (laid_met os _))) ?_
  intro W base args ds gs before hval0 hW _ _ hsz0 hL _ _
  have hsz : (DataW.weightsEach Tryz.prog (Tryz.f10.params.toList ++ (OpenSpec.ofChange Rows.fnChainMoreSpec).bare.plain.varTypes Tryz.prog) (ds ++ gs)).all (· ≤ reachBytes) = true := hsz0
  have hval : ∀ (j : Nat) t v, Tryz.f10.params[j]? = some t → args[j]? = some v → Value.okWide Tryz.prog W .any base t v := hval0
  have hL' : Laid W := laid_of hL
  clear hsz0 hval0
  have hW' := hW
  obtain ⟨p, q, hA0, hV0, rfl, _, _⟩ := hW
  have hA : DataW.TrodAll enc Tryz.prog W 0 (fun _ => true) true Tryz.f10.params.toList args.toList ds p := hA0
  rw [Tryz.params10] at hA hval hsz
  obtain ⟨v0, v1, v2, d0, d1, d2, p0, p1, p2, rfl, rfl, rfl, h0, h1, h2⟩ := trodAll_three hA
  obtain ⟨rfl, rfl⟩ := trodVars_none hV0
  obtain ⟨a0, n0, c0, rfl⟩ := okWide_slice Tryz.underlying37 (hval 0 37 v0 rfl rfl)
  obtain ⟨cs, rfl, _⟩ := okWide_struct Tryz.underlying30 (hval 1 30 v1 rfl rfl)
  have h0k := h0
  have h1k := h1
  have h2k := h2
  obtain ⟨a, rfl, _, _, hwf⟩ := open_int Tryz.underlying5 (hval 2 5 v2 rfl rfl) h2
  obtain ⟨fuel0, hf0⟩ := h0
  obtain ⟨fuel1, hf1⟩ := h1
  clear hA0 hV0
  simp only [List.append_nil] at hW' hsz
  have hlt : ∀ x ∈ p0 ++ (p1 ++ p2), x.block < W.heap.size := fun x hx => by simpa using hW'.lt x (by simpa using hx)
  have hw0 : Light 37 d0 := fun n hn => by simpa using List.all_eq_true.1 hsz n (DataW.weights_mem_each (j := 0) rfl rfl n hn)
  have hw1 : Light 30 d1 := fun n hn => by simpa using List.all_eq_true.1 hsz n (DataW.weights_mem_each (j := 1) rfl rfl n hn)
  obtain ⟨A, n, c, ks, zs, e0, hn, hr, hs⟩ := read_chain hf0 hw0
  simp [Value.cells] at e0
  obtain ⟨rfl, rfl, rfl⟩ := e0
  obtain ⟨z, m, hc, hrm, hsm⟩ := read_cert hf1 hw1
  have hcs : cs = z.cells m := Array.toList_inj.1 hc
  subst hcs
  obtain ⟨k, rfl, hk⟩ : ∃ k : Nat, a = (k : Int) ∧ k ≤ 255 := by
    have : 0 ≤ a ∧ a ≤ 255 := by simpa [Lit.wf, IntKind.min, IntKind.max, IntKind.signed, IntKind.bits] using hwf
    exact ⟨a.toNat, by omega, by omega⟩
  refine (fnChainMore_calls _ _ _ ks zs z m k W hL' hr hrm hn hs hsm hk).mono ?_
  rintro e W' ⟨rfl, bel⟩
  refine ⟨_, rfl, _, _, _, [], p0 ++ (p1 ++ p2), [], hW', ?_, ?_, ?_, bel.frame _, fun h => by cases h⟩
  · exact trodAll_mk1 (shut_bool Tryz.underlying4 _)
  · exact trodAll_mk3 (Below.trod laidOut (by kernel_rfl) (of_decide_eq_true (by kernel_rfl)) h0k bel (fun x hx => hlt x (by simp [hx]))) (Below.trod laidOut (by kernel_rfl) (of_decide_eq_true (by kernel_rfl)) h1k bel (fun x hx => hlt x (by simp [hx]))) (Below.trod laidOut (by kernel_rfl) (of_decide_eq_true (by kernel_rfl)) h2k bel (fun x hx => hlt x (by simp [hx])))
  · exact rfl
end Go.Proofs.YtblabjfjhlablaaGreatDoor
