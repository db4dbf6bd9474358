/- Words for the walks over the program; the walk of dnsCompareTable: it returns the table of lower case letters, the dot at 0. -/
import Derived.Test.YtblabjfjhlablaaGreatDoorProg
import Derived.WalkKit
import Derived.WalkSpells
import Derived.Lib.Hide
import Derived.Deep.DeepCutAuto
import Derived.Deep.CutBlock
import Derived.Deep.MidRow
import Derived.WalkLawsBesides
namespace Go.Proofs.YtblabjfjhlablaaGreatDoor
open Go.RowKit
/-- a number below 256 in lower case -/
def lowN (j : Nat) : Nat := if 65 ≤ j ∧ j ≤ 90 then j + 32 else j
def tabAt (i j : Nat) : Value := .int .u8 (if j < i then (lowN j : Nat) else 0 : Nat)
def tabTo (i : Nat) : Array Value := ((List.range 256).map (tabAt i)).toArray
theorem tabTo_size (i : Nat) : (tabTo i).size = 256 := by simp [tabTo]
theorem tabTo_get (i j : Nat) (h : j < 256) : (tabTo i)[j]? = some (tabAt i j) := by simp [tabTo, h]
theorem tabTo_zero : tabTo 0 = Tryz.zeroCells193 := by kernel_rfl
theorem tabTo_succ (i : Nat) (h : i < 256) : (tabTo i).setIfInBounds i (.int .u8 (lowN i : Nat)) = tabTo (i + 1) := by
  apply Array.ext_getElem?
  intro j
  rw [Array.getElem?_setIfInBounds]
  by_cases hj : j < 256
  · rw [tabTo_get (i + 1) j hj, tabTo_get i j hj]
    by_cases hij : i = j
    · subst hij; rw [if_pos rfl, if_pos (by rw [tabTo_size]; exact h)]; simp [tabAt]
    · rw [if_neg hij]
      have : (j < i) = (j < i + 1) := propext (by omega)
      simp only [tabAt, this]
  · have e : ∀ n, (tabTo n)[j]? = none := fun n => Array.getElem?_eq_none_iff.2 (by rw [tabTo_size]; omega)
    rw [e, if_neg (by omega), e]

def writeFrom (cs : Array Value) : Nat → List Value → Array Value
  | _, [] => cs
  | o, v :: r => writeFrom (cs.setIfInBounds o v) (o + 1) r
theorem writeFrom_get : ∀ (vs : List Value) (cs : Array Value) (o j : Nat), (writeFrom cs o vs)[j]? = if o ≤ j ∧ j < o + vs.length ∧ j < cs.size then vs[j - o]? else cs[j]?
  | [], cs, o, j => by
    rw [writeFrom, if_neg (by simp; omega)]
  | v :: r, cs, o, j => by
    rw [writeFrom, writeFrom_get r]
    simp only [Array.size_setIfInBounds, List.length_cons, Array.getElem?_setIfInBounds]
    by_cases h1 : o = j
    · subst h1
      rw [if_neg (by omega), if_pos rfl]
      by_cases h2 : o < cs.size
      · rw [if_pos h2, if_pos (by omega)]; simp
      · rw [if_neg h2, if_neg (by omega)]; simp; omega
    · by_cases h2 : o + 1 ≤ j ∧ j < o + 1 + r.length ∧ j < cs.size
      · rw [if_pos h2, if_pos (by omega)]
        obtain ⟨k, rfl⟩ : ∃ k, j = o + 1 + k := ⟨j - (o + 1), by omega⟩
        rw [show o + 1 + k - (o + 1) = k by omega, show o + 1 + k - o = k + 1 by omega]; rfl
      · rw [if_neg h2, if_neg h1, if_neg (by omega)]
theorem writeFrom_all (cs : Array Value) (vs : List Value) (h : vs.length = cs.size) : writeFrom cs 0 vs = vs.toArray := by
  apply Array.ext_getElem?
  intro j
  rw [writeFrom_get]
  by_cases hj : j < cs.size
  · rw [if_pos (by omega)]; simp
  · rw [if_neg (by omega), Array.getElem?_eq_none_iff.2 (by omega)]; simp; omega
theorem setCells_alloc (t : TypeId) (w : World) : ∀ (vs : List Value) (cs : Array Value) (o : Nat), (w.alloc (.cells cs t)).setCells w.heap.size o vs = w.alloc (.cells (writeFrom cs o vs) t)
  | [], _, _ => rfl
  | v :: r, cs, o => by
    rw [World.setCells, World.setCell_alloc_at _ _ _ _ _ rfl, setCells_alloc t w r]; rfl
theorem setCells_all (t : TypeId) (w : World) (vs : List Value) (cs : Array Value) (h : vs.length = cs.size) : (w.alloc (.cells cs t)).setCells w.heap.size 0 vs = w.alloc (.cells vs.toArray t) := by
  rw [setCells_alloc, writeFrom_all _ _ h]
/-- A whole array is stored into the block that was made last. -/
theorem wpList_store_new {P : Program} {ops : Array Oper} {rest : List Oper} {op : Oper} {a : Act} {Q : Exit → Act → World → Prop} (hgd : op.guard = none) (ty : TypeId) (x y : Operand) (ho : op.op = .store ty x y)
    (W : World) (cs : Array Value) (t : TypeId) (g : Nat) (hg : g = W.heap.size) (cells : Array Value) (hx : a.eval x = .pointer (some ⟨g, 0, none⟩)) (hy : a.eval y = .agg cells)
    (hs : cells.size = cs.size) (hi : (P.info? ty).map (·.size) = some cells.size) (h1 : cells.all (·.oneCell') = true)
    (h : wpList P ops Q rest (a.put op.dst undef) (W.alloc (.cells cells t))) : wpList P ops Q (op :: rest) a (W.alloc (.cells cs t)) := by
  subst hg
  refine wpList_store_mid hgd ty x y ho W.heap.size 0 cells hx hy (fun j hj => ?_) hi h1 ?_
  · rw [Nat.zero_add, World.cell?_alloc_new]
    exact ⟨by rw [Array.getElem?_eq_getElem (by omega)]; rfl, frozen_of_row _ _ _ _ _ (heap_alloc_new _ _)⟩
  · rw [setCells_all _ _ _ _ (by simpa using hs), Array.toArray_toList]; exact h
def tabDone : Array Value := ((List.range 256).map (fun j => Value.int .u8 (if j = 46 then 0 else lowN j : Nat))).toArray
theorem tabDone_size : tabDone.size = 256 := by simp [tabDone]
theorem tabDone_one : ∀ v ∈ tabDone, v.oneCell' = true := by intro v hv; simp [tabDone] at hv; obtain ⟨j, _, rfl⟩ := hv; rfl
theorem tabDone_get (j : Nat) (h : j < 256) : tabDone[j]? = some (.int .u8 (if j = 46 then 0 else lowN j : Nat)) := by simp [tabDone, h]
theorem tabDone_eq : (tabTo 256).setIfInBounds 46 (.int .u8 0) = tabDone := by
  apply Array.ext_getElem?
  intro j
  rw [Array.getElem?_setIfInBounds]
  by_cases hj : j < 256
  · rw [tabDone_get j hj, tabTo_get 256 j hj, tabTo_size]
    by_cases h46 : 46 = j
    · subst h46; simp
    · rw [if_neg h46, if_neg (by omega)]; simp [tabAt, hj]
  · have e : ∀ n, (tabTo n)[j]? = none := fun n => Array.getElem?_eq_none_iff.2 (by rw [tabTo_size]; omega)
    rw [if_neg (by omega), e, Array.getElem?_eq_none_iff.2 (by rw [tabDone_size]; omega)]
attribute [irreducible] tabTo tabAt tabDone
set_option maxRecDepth 100000 in
set_option maxHeartbeats 400000 in
theorem t138 (w : World) :
    Calls Tryz.prog 138 #[] w fun e w' => e = .returned (.agg tabDone) ∧ w.alloc (.cells tabDone 193) = w' := by
  go_enter Tryz.func138, Tryz.ntmps138
  go_wp2
  go_loopw [1, 2] (fun i _ wr => ∃ k : Nat, k ≤ 256 ∧ i = .int .i64 k ∧ wr = w.alloc (.cells (tabTo k) 193)) (fun i _ _ => 256 - (intOf i).toNat)
  case atStart => exact ⟨0, by omega, rfl, by rw [tabTo_zero]⟩
  case round =>
    obtain ⟨k, hk, rfl, rfl⟩ := hrel
    by_cases hlt : k < 256
    · have hc := tabTo_get k k hlt
      have HS := Lib.hid (tabTo_succ k hlt)
      by_cases h1 : 65 ≤ k
      · by_cases h2 : k ≤ 90
        · have hl : lowN k = k + 32 := by simp [lowN, h1, h2]
          rw [hl] at HS
          clear hl
          go_wp2
          go_roundw
          case rel => exact ⟨k + 1, by omega, by go_num, by rw [← HS.out]; rfl⟩
          case measure => simp [intOf]; omega
        · have hl : lowN k = k := by simp [lowN, h1, h2]
          rw [hl] at HS
          clear hl
          go_wp2
          go_roundw
          case rel => exact ⟨k + 1, by omega, by go_num, by rw [← HS.out]⟩
          case measure => simp [intOf]; omega
      · have hl : lowN k = k := by simp [lowN, h1]
        rw [hl] at HS
        clear hl
        go_wp2
        go_roundw
        case rel => exact ⟨k + 1, by omega, by go_num, by rw [← HS.out]⟩
        case measure => simp [intOf]; omega
    · obtain rfl : k = 256 := by omega
      have hc := tabTo_get 256 46 (by omega)
      have hsz := tabTo_size 256
      have HT := Lib.hid tabDone_eq
      have h1 := tabDone_one
      generalize tabTo 256 = T at *
      have i193 : (Tryz.prog.info? 193).map (·.size) = some 256 := by kernel_rfl
      have HI := Lib.hid i193
      clear i193
      go_upto_region 9 with fail
      refine wp_region_lit ?_
      refine wpList_load_row rfl 193 _ rfl w.heap.size rfl 193 (T.setIfInBounds 46 (.int .u8 0)) (0, 0) _ (heap_alloc_new _ _) Tryz.underlying193 rfl (by rw [Array.size_setIfInBounds, hsz]; exact HI.out) ?_
      have hall : (tabDone).all (·.oneCell') = true := Array.all_eq_true_iff_forall_mem.2 tabDone_one
      rw [HT.out]
      refine wpList_store_mid rfl 193 _ _ rfl w.heap.size 0 tabDone rfl rfl ?ht (by rw [tabDone_size]; exact HI.out) hall ?_
      case ht =>
        intro j hj
        rw [tabDone_size] at hj
        rw [Nat.zero_add, World.cell?_alloc_new, tabDone_get j hj]
        exact ⟨rfl, frozen_of_row _ _ _ _ _ (heap_alloc_new _ _)⟩
      rw [setCells_all _ _ _ _ (by simp), Array.toArray_toList]
      go_wp2
      have hall' : tabDone.toList.toArray = tabDone := Array.toArray_toList
      rw [hall']
      refine bodyPost_ret (v := .agg tabDone) (results_cell_row (fn := Tryz.f138) rfl _ _ w.heap.size 193 tabDone (0, 0) _ rfl (heap_alloc_new _ _) Tryz.underlying193 rfl (by rw [tabDone_size]; exact HI.out)) rfl ⟨rfl, rfl⟩
end Go.Proofs.YtblabjfjhlablaaGreatDoor
