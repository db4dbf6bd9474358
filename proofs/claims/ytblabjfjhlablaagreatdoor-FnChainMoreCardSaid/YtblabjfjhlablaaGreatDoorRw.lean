/- What every row of this seat begins with: the tables that the listed variables hold; a world in which they hold them. -/
import Derived.Test.YtblabjfjhlablaaGreatDoorRows
import Derived.Test.YtblabjfjhlablaaGreatDoorW5
import Derived.Deep.DeepHandedRow
import Derived.Deep.DeepWitnessRowRef
import Derived.Lib.LaidCaseMet
import Derived.Lib.LaidIn
import Derived.Lib.LaidU8T
import Derived.PinnedBridge
import Derived.ProofKit
import Derived.SizedLaws
import Derived.SliceStrings
import Derived.Test.YtblabjfjhlablaaGreatDoorWr
namespace Go.Proofs.YtblabjfjhlablaaGreatDoor
open Go.Shelf Go.Lib
def laidL : List (String × DataW Unit) := [("unicode/utf8.acceptRanges", Rows.laid_unicode_utf8_acceptRanges), ("net/netip.z4", Rows.laid_net_netip_z4), ("net/netip.z6noz", Rows.laid_net_netip_z6noz), ("net/netip.z0", Rows.laid_net_netip_z0), ("unicode.CaseRanges", Rows.laid_unicode_CaseRanges), ("unicode/utf8.first", Rows.laid_unicode_utf8_first)]
theorem laid_row : Rows.fnChainDNSRow.laid = laidL := rfl
theorem own : ownKnob Tryz.prog.godebug = none := by kernel_rfl
theorem laidOut : laidOutB Tryz.prog = true := by kernel_rfl
theorem accept_eq : (Rows.laid_unicode_utf8_acceptRanges : DataW Unit) = acceptData := by kernel_rfl
theorem first_eq : Rows.laid_unicode_utf8_first = firstData := Pinned.utf8First_eq
theorem case_eq : Rows.laid_unicode_CaseRanges = caseData := Pinned.caseRanges_eq
theorem caseX : CaseExtra Tryz.prog Tryz.lays159_ren := ⟨by kernel_rfl, by kernel_rfl, by kernel_rfl, by kernel_rfl, by kernel_rfl, by kernel_rfl⟩
theorem u8X : U8Extra Tryz.prog Tryz.lays159_ren := ⟨by kernel_rfl, by kernel_rfl, by kernel_rfl, by kernel_rfl, by kernel_rfl, by kernel_rfl, by kernel_rfl⟩
/-- What the row's list gives: the library's tables hold what its text lays. -/
theorem laid_of {W : World} (h : laidMetH Tryz.prog laidL W) : Laid W := by
  have hc := Lib.laidMet.reads h (n := "unicode.CaseRanges") (.tail _ (.tail _ (.tail _ (.tail _ (.head _)))))
  have hf := Lib.laidMet.reads h (n := "unicode/utf8.first") (.tail _ (.tail _ (.tail _ (.tail _ (.tail _ (.head _))))))
  have ha := Lib.laidMet.reads h (n := "unicode/utf8.acceptRanges") (.head _)
  rw [case_eq] at hc
  rw [first_eq] at hf
  rw [accept_eq] at ha
  exact ⟨caseVar_of_reads { Tryz.lays159 with } Tryz.lays159.t206 caseX hc, utf8Tabs_of_readsT { Tryz.lays159 with } u8X hf ha⟩
/-- A world for the witness: three blocks more; the listed variables hold what their initialisers lay. -/
noncomputable def laidWorld (os : Os) : World :=
  let N := (World.settled Tryz.prog os).heap.size
  let w0 := World.holding Tryz.prog os ⟨#[.cells #[.bool false, .string ⟨#[]⟩] 265, .cells #[.bool true, .string ⟨#[]⟩] 265, .cells Lib.caseCells5 292], #[], []⟩
  let put (h : Array Obj) (g : Nat) (cs : Array Value) : Array Obj := h.modify g fun
    | .cells _ t frozen => .cells cs t frozen
    | o => o
  let h1 := put w0.heap 4 (Lib.firstTab.map fun z => Value.int .u8 z).toArray
  let h2 := put h1 5 ((List.range 16).flatMap fun i => [Value.int .u8 (Lib.accLo i), Value.int .u8 (Lib.accHi i)]).toArray
  let h3 := put h2 2 #[.pointer (some ⟨N, 0, none⟩)]
  let h4 := put h3 3 #[.pointer (some ⟨N + 1, 0, none⟩)]
  let h5 := put h4 0 #[.slice (some ⟨N + 2, 0, none⟩) 336 336]
  { w0 with heap := h5 }
set_option maxRecDepth 1000000 in
theorem case_in {w : World} {R : Nat} (hvar : w.heap[0]? = some (.cells #[.slice (some ⟨R, 0, none⟩) caseA.size caseA.size] 262 (0, 0))) (hblk : w.heap[R]? = some (.cells caseCells5 292 (0, 0))) (hR : 0 ≠ R) :
    LaidIn Tryz.prog w [("unicode.CaseRanges", caseData)] [0, R] := by
  have hT := caseTab_of_block hblk
  have hread := case_slice_reads (ρ := Tryz.lays159_ren) { Tryz.lays159 with } Tryz.lays159.t206 caseX hT caseA_wf (by rw [caseA_size]; unfold maxLen; omega) 0
  rw [case_rows_data] at hread
  have hv : w.var? Tryz.prog "unicode.CaseRanges" = some #[.slice (some ⟨R, 0, none⟩) caseA.size caseA.size] := by
    have hn : Tryz.prog.globalNamed "unicode.CaseRanges" = some 0 := by kernel_rfl
    simp [World.var?, hn, hvar]
  refine LaidIn.one [0, R] (g := 0) (t := 262) (by kernel_rfl) (by kernel_rfl) hv hread ?_ ?_ ?_
  · have := rows_nodup [((⟨0, 0, none⟩ : Addr), 1), (⟨R, 0, none⟩, caseA.size * 5)] (by simpa using hR)
    show (MemPlace.row ⟨0, 0, none⟩ 1 ++ MemPlace.row ⟨R, 0, none⟩ (caseA.size * 5)).Nodup
    simpa only [List.flatMap_cons, List.flatMap_nil, List.append_nil] using this
  · intro b off hp
    rcases List.mem_append.1 hp with hp | hp
    · obtain ⟨i, hi, e⟩ := MemPlace.mem_row.1 hp
      cases e
      refine ⟨⟨_, _, hvar⟩, fun u v hc => ?_⟩
      obtain rfl : i = 0 := by simpa using hi
      rw [Lib.cell_of_heap hvar] at hc
      simp at hc
    · obtain ⟨i, hi, e⟩ := MemPlace.mem_row.1 hp
      cases e
      refine ⟨⟨_, _, hblk⟩, fun u v hc => ?_⟩
      obtain ⟨c0, c1, c2, c3, c4⟩ := hT (i / 5) (by omega)
      have hi5 : 0 + i = 0 + i / 5 * 5 + i % 5 := by omega
      simp only at hc
      rw [hi5] at hc
      have hm : i % 5 < 5 := Nat.mod_lt _ (by omega)
      match hk : i % 5, hm with
      | 0, _ => rw [hk, Nat.add_zero, c0] at hc; cases hc
      | 1, _ => rw [hk, c1] at hc; cases hc
      | 2, _ => rw [hk, c2] at hc; cases hc
      | 3, _ => rw [hk, c3] at hc; cases hc
      | 4, _ => rw [hk, c4] at hc; cases hc
  · intro x hx
    have := rows_block [((⟨0, 0, none⟩ : Addr), 1), (⟨R, 0, none⟩, caseA.size * 5)] x (by
      have hx : x ∈ MemPlace.row ⟨0, 0, none⟩ 1 ++ MemPlace.row ⟨R, 0, none⟩ (caseA.size * 5) := hx
      simpa only [List.flatMap_cons, List.flatMap_nil, List.append_nil] using hx)
    simpa using this
set_option maxRecDepth 100000 in
theorem laid_met (os : Os) (args : Array Value) : laidMet Tryz.prog laidL ((laidWorld os).forCall (fun _ _ => 0) ⟨#[], args, []⟩).memory := by
  have h1 : LaidIn Tryz.prog ((laidWorld os).forCall (fun _ _ => 0) ⟨#[], args, []⟩).memory [("unicode/utf8.acceptRanges", Rows.laid_unicode_utf8_acceptRanges), ("net/netip.z4", Rows.laid_net_netip_z4), ("net/netip.z6noz", Rows.laid_net_netip_z6noz), ("net/netip.z0", Rows.laid_net_netip_z0)] [5, 2, 3, 6, (World.settled Tryz.prog default).heap.size, (World.settled Tryz.prog default).heap.size + 1] :=
    LaidIn.of_run _ 10 (by kernel_rfl) (by kernel_rfl) (by kernel_rfl) (by kernel_rfl)
  have h2 : LaidIn Tryz.prog ((laidWorld os).forCall (fun _ _ => 0) ⟨#[], args, []⟩).memory [("unicode.CaseRanges", Rows.laid_unicode_CaseRanges)] [0, (World.settled Tryz.prog default).heap.size + 2] := by
    rw [case_eq]
    exact case_in (by kernel_rfl) (by kernel_rfl) (by simp)
  have h3 : LaidIn Tryz.prog ((laidWorld os).forCall (fun _ _ => 0) ⟨#[], args, []⟩).memory [("unicode/utf8.first", Rows.laid_unicode_utf8_first)] [4] :=
    LaidIn.of_run _ 10 (by kernel_rfl) (by kernel_rfl) (by kernel_rfl) (by kernel_rfl)
  exact ((h1.append h2 (by kernel_rfl)).append h3 (by kernel_rfl)).met
theorem mem_weightsAll {H : Type} {P : Program} {e : TypeId} : ∀ {l : List (DataW H)} {d : DataW H} {n : Nat}, d ∈ l → n ∈ d.weights P e → n ∈ DataW.weightsAll P e l
  | [], _, _, h, _ => by cases h
  | x :: r, d, n, h, hn => by
    simp only [DataW.weightsAll, List.mem_append]
    rcases List.mem_cons.1 h with rfl | h
    · exact .inl hn
    · exact .inr (mem_weightsAll h hn)
theorem bytes9 : Tryz.prog.bytesOf 9 = 16 := by kernel_rfl
theorem cells9 : Tryz.prog.cellsOf 9 = 1 := by kernel_rfl
open Go.ChangeShapes Go.WideShapes Go.ChangeAt Go.RowKit in
/-- A []string that came in, as the walks want it. -/
theorem open_txt {H : Type} {enc : TypeId × Value → H} {W : World} {a0 : Option Addr} {len cap fuel : Nat} {x : DataW H × List MemPlace}
    (hf : DataW.trod enc Tryz.prog W 0 (fun _ => true) true fuel 22 [.slice a0 len cap] = some x) (hwt : ∀ n ∈ x.1.weights Tryz.prog 22, n ≤ reachBytes) :
    ∃ Xs : List ByteArray, Xs.length = len ∧ Reads W W.heap.size 1 a0 len (Xs.map .string) ∧ (∀ X ∈ Xs, X.size ≤ reachBytes) ∧ len ≤ reachBytes := by
  rcases open_strings Tryz.underlying22 Tryz.underlying9 cells9 hf with ⟨hcs, hx⟩ | ⟨a, len', cap', ss, hcs, _, hl, hm, hz, hx, hcell, _⟩
  · simp at hcs
    obtain ⟨rfl, rfl, rfl⟩ := hcs
    exact ⟨[], rfl, .none_, (fun X h => by cases h), Nat.zero_le _⟩
  · simp at hcs
    obtain ⟨rfl, rfl, rfl⟩ := hcs
    subst hx
    simp only [if_true] at hz
    have hw : DataW.weights Tryz.prog 22 (DataW.slice (strs (H := H) (ss.take len)) (strs (ss.drop len))) = ((strs (H := H) (ss.take len)).length + (strs (H := H) (ss.drop len)).length) * Tryz.prog.bytesOf 9 :: (DataW.weightsAll Tryz.prog 9 (strs (H := H) (ss.take len)) ++ DataW.weightsAll Tryz.prog 9 (strs (H := H) (ss.drop len))) := by
      simp only [DataW.weights, Tryz.underlying22]
    rw [hw] at hwt
    refine ⟨ss.take len, by simp; omega, ⟨by simp; omega, fun h0 => ⟨a, rfl, ?_, fun j u hu => ?_⟩⟩, fun X hX => ?_, ?_⟩
    · have := World.block_lt_of_cell? W _ (hcell 0 (by omega))
      rwa [block_of_add] at this
    · rw [List.getElem?_map, Option.map_eq_some_iff] at hu
      obtain ⟨X, hX, rfl⟩ := hu
      have hj : j < len := by
        have := (List.getElem?_eq_some_iff.1 hX).1
        simp at this
        omega
      rw [List.getElem?_take_of_lt hj] at hX
      have := hcell j (by omega)
      simpa [List.getD, hX] using this
    · have := hwt X.data.toList.length (List.mem_cons_of_mem _ (List.mem_append_left _ (mem_weightsAll (d := .lit (.string X.data.toList)) (by unfold strs; exact List.mem_map.2 ⟨X, hX, rfl⟩) (by simp [DataW.weights]))))
      have e : X.data.toList.length = X.size := rfl
      omega
    · have := hwt _ (List.mem_cons_self ..)
      rw [bytes9] at this
      simp [strs] at this
      omega
end Go.Proofs.YtblabjfjhlablaaGreatDoor
