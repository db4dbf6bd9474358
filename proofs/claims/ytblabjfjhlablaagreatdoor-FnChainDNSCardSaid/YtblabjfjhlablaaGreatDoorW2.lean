/- Words for the walks over the program; the walk of dnsCompareTable: it returns the table of lower case letters, the dot at 0. -/
import Derived.Test.YtblabjfjhlablaaGreatDoorProg
import Derived.WalkKit
import Derived.WalkSpells
import Derived.Lib.Hide
import Derived.Deep.DeepCutAuto
import Derived.Deep.CutBlock
import Derived.Deep.MidRow
import Derived.WalkLawsBesides
import Derived.Test.YtblabjfjhlablaaGreatDoorNc
import Derived.Deep.QuietTactic
import Derived.BigQuiet
import Derived.IntWalk
namespace Go.Proofs.YtblabjfjhlablaaGreatDoor
open Go.RowKit
/-- a number below 256 in lower case -/
def lowN (j : Nat) : Nat := if 65 ≤ j ∧ j ≤ 90 then j + 32 else j
def tabAt (i j : Nat) : Value := .int .u8 (if j < i then (lowN j : Nat) else 0 : Nat)
def tabTo (i : Nat) : Array Value := ((List.range 256).map (tabAt i)).toArray
theorem tabTo_size (i : Nat) : (tabTo i).size = 256 := by simp [tabTo]
theorem tabTo_get (i j : Nat) (h : j < 256) : (tabTo i)[j]? = some (tabAt i j) := by simp [tabTo, h]
theorem tabTo_zero : tabTo 0 = Tryz.zeroCells193 := by kernel_rfl
theorem tabTo_succ (i : Nat) (h : i < 256) : (tabTo i).setIfInBounds i (.int .u8 (lowN i : Nat)) = tabTo (i + 1) := by
  apply Array.ext_getElem?
  intro j
  rw [Array.getElem?_setIfInBounds]
  by_cases hj : j < 256
  · rw [tabTo_get (i + 1) j hj, tabTo_get i j hj]
    by_cases hij : i = j
    · subst hij; rw [if_pos rfl, if_pos (by rw [tabTo_size]; exact h)]; simp [tabAt]
    · rw [if_neg hij]
      have : (j < i) = (j < i + 1) := propext (by omega)
      simp only [tabAt, this]
  · have e : ∀ n, (tabTo n)[j]? = none := fun n => Array.getElem?_eq_none_iff.2 (by rw [tabTo_size]; omega)
    rw [e, if_neg (by omega), e]

def writeFrom (cs : Array Value) : Nat → List Value → Array Value
  | _, [] => cs
  | o, v :: r => writeFrom (cs.setIfInBounds o v) (o + 1) r
theorem writeFrom_get : ∀ (vs : List Value) (cs : Array Value) (o j : Nat), (writeFrom cs o vs)[j]? = if o ≤ j ∧ j < o + vs.length ∧ j < cs.size then vs[j - o]? else cs[j]?
  | [], cs, o, j => by
    rw [writeFrom, if_neg (by simp; omega)]
  | v :: r, cs, o, j => by
    rw [writeFrom, writeFrom_get r]
    simp only [Array.size_setIfInBounds, List.length_cons, Array.getElem?_setIfInBounds]
    by_cases h1 : o = j
    · subst h1
      rw [if_neg (by omega), if_pos rfl]
      by_cases h2 : o < cs.size
      · rw [if_pos h2, if_pos (by omega)]; simp
      · rw [if_neg h2, if_neg (by omega)]; simp; omega
    · by_cases h2 : o + 1 ≤ j ∧ j < o + 1 + r.length ∧ j < cs.size
      · rw [if_pos h2, if_pos (by omega)]
        obtain ⟨k, rfl⟩ : ∃ k, j = o + 1 + k := ⟨j - (o + 1), by omega⟩
        rw [show o + 1 + k - (o + 1) = k by omega, show o + 1 + k - o = k + 1 by omega]; rfl
      · rw [if_neg h2, if_neg h1, if_neg (by omega)]
theorem writeFrom_all (cs : Array Value) (vs : List Value) (h : vs.length = cs.size) : writeFrom cs 0 vs = vs.toArray := by
  apply Array.ext_getElem?
  intro j
  rw [writeFrom_get]
  by_cases hj : j < cs.size
  · rw [if_pos (by omega)]; simp
  · rw [if_neg (by omega), Array.getElem?_eq_none_iff.2 (by omega)]; simp; omega
theorem setCells_alloc (t : TypeId) (w : World) : ∀ (vs : List Value) (cs : Array Value) (o : Nat), (w.alloc (.cells cs t)).setCells w.heap.size o vs = w.alloc (.cells (writeFrom cs o vs) t)
  | [], _, _ => rfl
  | v :: r, cs, o => by
    rw [World.setCells, World.setCell_alloc_at _ _ _ _ _ rfl, setCells_alloc t w r]; rfl
theorem setCells_all (t : TypeId) (w : World) (vs : List Value) (cs : Array Value) (h : vs.length = cs.size) : (w.alloc (.cells cs t)).setCells w.heap.size 0 vs = w.alloc (.cells vs.toArray t) := by
  rw [setCells_alloc, writeFrom_all _ _ h]
/-- A whole array is stored into the block that was made last. -/
theorem wpList_store_new {P : Program} {ops : Array Oper} {rest : List Oper} {op : Oper} {a : Act} {Q : Exit → Act → World → Prop} (hgd : op.guard = none) (ty : TypeId) (x y : Operand) (ho : op.op = .store ty x y)
    (W : World) (cs : Array Value) (t : TypeId) (g : Nat) (hg : g = W.heap.size) (cells : Array Value) (hx : a.eval x = .pointer (some ⟨g, 0, none⟩)) (hy : a.eval y = .agg cells)
    (hs : cells.size = cs.size) (hi : (P.info? ty).map (·.size) = some cells.size) (h1 : cells.all (·.oneCell') = true)
    (h : wpList P ops Q rest (a.put op.dst undef) (W.alloc (.cells cells t))) : wpList P ops Q (op :: rest) a (W.alloc (.cells cs t)) := by
  subst hg
  refine wpList_store_mid hgd ty x y ho W.heap.size 0 cells hx hy (fun j hj => ?_) hi h1 ?_
  · rw [Nat.zero_add, World.cell?_alloc_new]
    exact ⟨by rw [Array.getElem?_eq_getElem (by omega)]; rfl, frozen_of_row _ _ _ _ _ (heap_alloc_new _ _)⟩
  · rw [setCells_all _ _ _ _ (by simpa using hs), Array.toArray_toList]; exact h
def tabDone : Array Value := ((List.range 256).map (fun j => Value.int .u8 (if j = 46 then 0 else lowN j : Nat))).toArray
theorem tabDone_size : tabDone.size = 256 := by simp [tabDone]
theorem tabDone_one : ∀ v ∈ tabDone, v.oneCell' = true := by intro v hv; simp [tabDone] at hv; obtain ⟨j, _, rfl⟩ := hv; rfl
theorem tabDone_get (j : Nat) (h : j < 256) : tabDone[j]? = some (.int .u8 (if j = 46 then 0 else lowN j : Nat)) := by simp [tabDone, h]
theorem tabDone_eq : (tabTo 256).setIfInBounds 46 (.int .u8 0) = tabDone := by
  apply Array.ext_getElem?
  intro j
  rw [Array.getElem?_setIfInBounds]
  by_cases hj : j < 256
  · rw [tabDone_get j hj, tabTo_get 256 j hj, tabTo_size]
    by_cases h46 : 46 = j
    · subst h46; simp
    · rw [if_neg h46, if_neg (by omega)]; simp [tabAt, hj]
  · have e : ∀ n, (tabTo n)[j]? = none := fun n => Array.getElem?_eq_none_iff.2 (by rw [tabTo_size]; omega)
    rw [if_neg (by omega), e, Array.getElem?_eq_none_iff.2 (by rw [tabDone_size]; omega)]
attribute [irreducible] tabTo tabAt tabDone
set_option maxRecDepth 100000 in
set_option maxHeartbeats 400000 in
theorem t138 (w : World) :
    Calls Tryz.prog 138 #[] w fun e w' => e = .returned (.agg tabDone) ∧ w.alloc (.cells tabDone 193) = w' := by
  go_enter Tryz.func138, Tryz.ntmps138
  go_wp2
  go_loopw [1, 2] (fun i _ wr => ∃ k : Nat, k ≤ 256 ∧ i = .int .i64 k ∧ wr = w.alloc (.cells (tabTo k) 193)) (fun i _ _ => 256 - (intOf i).toNat)
  case atStart => exact ⟨0, by omega, rfl, by rw [tabTo_zero]⟩
  case round =>
    obtain ⟨k, hk, rfl, rfl⟩ := hrel
    by_cases hlt : k < 256
    · have hc := tabTo_get k k hlt
      have HS := Lib.hid (tabTo_succ k hlt)
      by_cases h1 : 65 ≤ k
      · by_cases h2 : k ≤ 90
        · have hl : lowN k = k + 32 := by simp [lowN, h1, h2]
          rw [hl] at HS
          clear hl
          go_wp2
          go_roundw
          case rel => exact ⟨k + 1, by omega, by go_num, by rw [← HS.out]; rfl⟩
          case measure => simp [intOf]; omega
        · have hl : lowN k = k := by simp [lowN, h1, h2]
          rw [hl] at HS
          clear hl
          go_wp2
          go_roundw
          case rel => exact ⟨k + 1, by omega, by go_num, by rw [← HS.out]⟩
          case measure => simp [intOf]; omega
      · have hl : lowN k = k := by simp [lowN, h1]
        rw [hl] at HS
        clear hl
        go_wp2
        go_roundw
        case rel => exact ⟨k + 1, by omega, by go_num, by rw [← HS.out]⟩
        case measure => simp [intOf]; omega
    · obtain rfl : k = 256 := by omega
      have hc := tabTo_get 256 46 (by omega)
      have hsz := tabTo_size 256
      have HT := Lib.hid tabDone_eq
      have h1 := tabDone_one
      generalize tabTo 256 = T at *
      have i193 : (Tryz.prog.info? 193).map (·.size) = some 256 := by kernel_rfl
      have HI := Lib.hid i193
      clear i193
      go_upto_region 9 with fail
      refine wp_region_lit ?_
      refine wpList_load_row rfl 193 _ rfl w.heap.size rfl 193 (T.setIfInBounds 46 (.int .u8 0)) (0, 0) _ (heap_alloc_new _ _) Tryz.underlying193 rfl (by rw [Array.size_setIfInBounds, hsz]; exact HI.out) ?_
      have hall : (tabDone).all (·.oneCell') = true := Array.all_eq_true_iff_forall_mem.2 tabDone_one
      rw [HT.out]
      refine wpList_store_mid rfl 193 _ _ rfl w.heap.size 0 tabDone rfl rfl ?ht (by rw [tabDone_size]; exact HI.out) hall ?_
      case ht =>
        intro j hj
        rw [tabDone_size] at hj
        rw [Nat.zero_add, World.cell?_alloc_new, tabDone_get j hj]
        exact ⟨rfl, frozen_of_row _ _ _ _ _ (heap_alloc_new _ _)⟩
      rw [setCells_all _ _ _ _ (by simp), Array.toArray_toList]
      go_wp2
      have hall' : tabDone.toList.toArray = tabDone := Array.toArray_toList
      rw [hall']
      refine bodyPost_ret (v := .agg tabDone) (results_cell_row (fn := Tryz.f138) rfl _ _ w.heap.size 193 tabDone (0, 0) _ rfl (heap_alloc_new _ _) Tryz.underlying193 rfl (by rw [tabDone_size]; exact HI.out)) rfl ⟨rfl, rfl⟩
end Go.Proofs.YtblabjfjhlablaaGreatDoor
/- The walk of dnsCompare: it returns how two names compare from behind. -/
namespace Go.Proofs.YtblabjfjhlablaaGreatDoor
open Go.RowKit Nc
/-- the bytes of a text up to a place, the last first -/
def revTo (a : ByteArray) (i : Nat) : List UInt8 := (a.data.toList.take i).reverse
theorem revTo_succ (a : ByteArray) (i : Nat) (h : i < a.size) : revTo a (i + 1) = a[i] :: revTo a i := by
  unfold revTo
  rw [List.take_succ_eq_append_getElem (by simpa using h), List.reverse_append]; rfl
theorem revTo_zero (a : ByteArray) : revTo a 0 = [] := rfl
theorem revTo_all (a : ByteArray) : revTo a a.size = a.data.toList.reverse := by
  unfold revTo
  rw [List.take_of_length_le (by simp)]
def tbN (j : Nat) : Nat := if j = 46 then 0 else lowN j
theorem tb_toNat : ∀ x : UInt8, (tb x).toNat = tbN x.toNat := forall_u8 _ (by decide +kernel)
theorem tbN_lt (x : UInt8) : tbN x.toNat < 256 := by rw [← tb_toNat]; exact (tb x).toNat_lt
attribute [irreducible] tbN
theorem tab_at (x : UInt8) : tabDone[x.toNat]? = some (.int .u8 (tbN x.toNat : Nat)) := by
  rw [tabDone_get _ x.toNat_lt]; unfold tbN; rfl
theorem info193 : (Tryz.prog.info? 193).map (·.size) = some 256 := by kernel_rfl
set_option maxRecDepth 100000 in
set_option maxHeartbeats 400000 in
theorem dnsCompare_calls (a b : ByteArray) (w : World) (ha : a.size ≤ 4611686018427387904) (hb : b.size ≤ 4611686018427387904) :
    Calls Tryz.prog 102 #[.string a, .string b] w fun e w' => e = .returned (.int .i64 (cmpK a.data.toList.reverse b.data.toList.reverse)) ∧ (w.alloc (.cells tabDone 193)).alloc (.cells tabDone 193) = w' := by
  have HR : Hid (cmpK (revTo a a.size) (revTo b b.size) = cmpK a.data.toList.reverse b.data.toList.reverse) := by rw [revTo_all, revTo_all]; exact rfl
  generalize cmpK a.data.toList.reverse b.data.toList.reverse = R at HR ⊢
  go_enter Tryz.func102, Tryz.ntmps102
  have hi := info193
  have HI := Lib.hid hi
  clear hi
  have hall : (tabDone).all (·.oneCell') = true := Array.all_eq_true_iff_forall_mem.2 tabDone_one
  have hc : ∀ (x : UInt8), ((w.alloc (.cells tabDone 193)).alloc (.cells tabDone 193)).cell? ⟨w.heap.size + 1, x.toNat, none⟩ = some (.int .u8 (tbN x.toNat : Nat)) := fun x => by
    rw [show w.heap.size + 1 = (w.alloc (.cells tabDone 193)).heap.size by simp]
    exact (World.cell?_alloc_new (w.alloc (.cells tabDone 193)) _ _ _).trans (tab_at x)
  have HC := Lib.hid hc
  clear hc
  go_wp2_with (first
    | (go_at_call 138; refine (t138 _).mono ?_; rintro e w' ⟨rfl, rfl⟩)
    | (with_reducible refine wpList_store_new (op := ⟨none, .store 193 (.tmp 5) (.tmp 12), _, _, _, _⟩) ?g1 193 (.tmp 5) (.tmp 12) ?g2 (w.alloc (.cells tabDone 193)) Tryz.zeroCells193 193 (w.heap.size + 1) ?g3 tabDone ?g4 ?g5 ?g6 ?g7 ?g8 ?_))
  case g1 => rfl
  case g2 => rfl
  case g3 => simp
  case g4 => rfl
  case g5 => rfl
  case g6 => rw [tabDone_size]; rfl
  case g7 => rw [tabDone_size]; exact HI.out
  case g8 => exact hall
  go_loop [6, 7] (fun i j => ∃ x y : Int, -1 ≤ x ∧ x < a.size ∧ -1 ≤ y ∧ y < b.size ∧ i = .int .i64 x ∧ j = .int .i64 y ∧ Hid (cmpK (revTo a (x + 1).toNat) (revTo b (y + 1).toNat) = R)) (fun i _ => (intOf i + 1).toNat)
  case atStart => exact ⟨_, _, by omega, by omega, by omega, by omega, rfl, rfl, by simpa using HR⟩
  case round =>
    obtain ⟨x, y, hx1, hx2, hy1, hy2, rfl, rfl, hR⟩ := hrel
    by_cases hx : 0 ≤ x
    · obtain ⟨i, rfl⟩ := Int.eq_ofNat_of_zero_le hx
      by_cases hy : 0 ≤ y
      · obtain ⟨j, rfl⟩ := Int.eq_ofNat_of_zero_le hy
        have hi' : i < a.size := by omega
        have hj' : j < b.size := by omega
        have b1 : (a[i].toNat : Int) < 256 := by have := a[i].toNat_lt; omega
        have b2 : (b[j].toNat : Int) < 256 := by have := b[j].toNat_lt; omega
        have c1 := HC.out a[i]
        have c2 := HC.out b[j]
        have r1 := revTo_succ a i hi'
        have r2 := revTo_succ b j hj'
        rw [show ((i : Int) + 1).toNat = i + 1 by omega, show ((j : Int) + 1).toNat = j + 1 by omega, r1, r2] at hR
        clear r1 r2
        have t1 := tb_toNat a[i]
        have t2 := tb_toNat b[j]
        have T1 := Lib.hid t1
        have T2 := Lib.hid t2
        clear t1 t2
        by_cases he : tbN a[i].toNat = tbN b[j].toNat
        · have hR2 : Hid (cmpK (revTo a i) (revTo b j) = R) := by
            have h := hR.out
            rw [cmpK, if_pos (UInt8.toNat_inj.1 (by rw [T1.out, T2.out, he]))] at h
            exact h
          have hb1 : ((tbN a[i].toNat : Int) == (tbN b[j].toNat : Int)) = true := by simp [he]
          have HE := Lib.hid he
          clear he hR
          go_wp2
          go_round
          case rel => exact ⟨i - 1, j - 1, by omega, by omega, by omega, by omega, rfl, rfl, by rw [show ((i : Int) - 1 + 1).toNat = i by omega, show ((j : Int) - 1 + 1).toNat = j by omega]; exact hR2⟩
          case measure => simp only [intOf]; omega
        · have hne : tb a[i] ≠ tb b[j] := fun h => he (by rw [← T1.out, ← T2.out, h])
          have hb1 : ((tbN a[i].toNat : Int) == (tbN b[j].toNat : Int)) = false := by simp; omega
          have hR2 := hR.out
          rw [cmpK, if_neg hne] at hR2
          clear hR
          by_cases hl : tbN a[i].toNat < tbN b[j].toNat
          · rw [if_pos (UInt8.lt_iff_toNat_lt.2 (by rw [T1.out, T2.out]; exact hl))] at hR2
            subst hR2
            clear hne he
            go_wp2
            go_ret
            exact ⟨rfl, rfl⟩
          · rw [if_neg (fun h => hl (by have := UInt8.lt_iff_toNat_lt.1 h; rwa [T1.out, T2.out] at this))] at hR2
            subst hR2
            clear hne he
            go_wp2
            go_ret
            exact ⟨rfl, rfl⟩
      · obtain rfl : y = -1 := by omega
        have hR2 := hR.out
        rw [show ((-1 : Int) + 1).toNat = 0 by omega, show ((i : Int) + 1).toNat = i + 1 by omega, revTo_zero, revTo_succ a i (by omega)] at hR2
        simp only [cmpK] at hR2
        subst hR2
        clear hR hy
        have hl : ¬ (i : Int) < -1 := by omega
        go_wp2
        go_ret
        exact ⟨rfl, rfl⟩
    · obtain rfl : x = -1 := by omega
      have hR2 := hR.out
      rw [show ((-1 : Int) + 1).toNat = 0 by omega, revTo_zero] at hR2
      clear hR hx
      by_cases hy : y = -1
      · subst hy
        rw [show ((-1 : Int) + 1).toNat = 0 by omega, revTo_zero] at hR2
        simp only [cmpK] at hR2
        subst hR2
        go_wp2
        go_ret
        exact ⟨rfl, rfl⟩
      · obtain ⟨j, rfl⟩ : ∃ j : Nat, y = j := ⟨y.toNat, by omega⟩
        rw [show ((j : Int) + 1).toNat = j + 1 by omega, revTo_succ b j (by omega)] at hR2
        simp only [cmpK] at hR2
        subst hR2
        clear hy
        have hl : (-1 : Int) < j := by omega
        go_wp2
        go_ret
        exact ⟨rfl, rfl⟩
end Go.Proofs.YtblabjfjhlablaaGreatDoor
/- The walk of dnsHasSuffix: it returns whether a constraint is a name, or the name has labels more ahead of it. -/
namespace Go.Proofs.YtblabjfjhlablaaGreatDoor
open Go.RowKit Nc
/-- A constraint is the name, or it with labels more ahead. -/
def sufB (a b : ByteArray) : Bool := sufK a.data.toList.reverse b.data.toList.reverse
theorem preC_cons (x y : UInt8) (xs ys : List UInt8) : preC (x :: xs) (y :: ys) = (low x == low y && preC xs ys) := rfl
theorem low_less (x y : UInt8) (h : x.toNat < y.toNat) : (low x == low y) = decide (65 ≤ x.toNat ∧ x.toNat ≤ 90 ∧ y.toNat = x.toNat + 32) := by
  have lw : ∀ z : UInt8, (low z).toNat = lowN z.toNat := forall_u8 _ (by decide +kernel)
  have e : (low x = low y) ↔ lowN x.toNat = lowN y.toNat := by rw [← lw, ← lw, UInt8.toNat_inj]
  have hb := y.toNat_lt
  rw [Bool.eq_iff_iff]
  simp only [beq_iff_eq, decide_eq_true_eq, e]
  unfold lowN
  split <;> split <;> omega
theorem sufB_short (a b : ByteArray) (h : b.size < a.size) : sufB a b = false := by
  cases hc : sufB a b with
  | false => rfl
  | true =>
    have := preC_len _ _ (sufK_iff.1 hc).1
    simp at this
    omega
theorem sufB_pre (a b : ByteArray) (h : preC (revTo a a.size) (revTo b b.size) = false) : sufB a b = false := by
  rw [revTo_all, revTo_all] at h
  simp [sufB, sufK, h]
theorem last_rev (a : ByteArray) (h : 0 < a.size) : a.data.toList.reverse.getLast? = some a[0] := by
  rw [List.getLast?_reverse, List.head?_eq_getElem?, List.getElem?_eq_getElem (by simpa using h)]; rfl
theorem at_rev (b : ByteArray) (k : Nat) (h : k < b.size) : b.data.toList.reverse[k]? = some b[b.size - 1 - k] := by
  rw [List.getElem?_reverse (by simpa using h), List.getElem?_eq_getElem (by simp; omega)]; rfl
theorem sufB_end (a b : ByteArray) (ha : 0 < a.size) (_hl : a.size ≤ b.size) (h : preC (revTo a a.size) (revTo b b.size) = true) :
    sufB a b = (decide (a[0].toNat = 46) || decide (a.size = b.size) || (if h : a.size < b.size then decide (b[b.size - a.size - 1].toNat = 46) else false)) := by
  rw [revTo_all, revTo_all] at h
  have e46 : ∀ x : UInt8, (some x == some (46 : UInt8)) = decide (x.toNat = 46) := fun x => by
    rw [Bool.eq_iff_iff]; simp only [beq_iff_eq, Option.some.injEq, decide_eq_true_eq]; rw [← UInt8.toNat_inj]; rfl
  simp only [sufB, sufK, h, Bool.true_and, last_rev a ha, e46]
  simp only [List.length_reverse, Array.length_toList]
  by_cases hlt : a.size < b.size
  · rw [dif_pos hlt, show a.data.size = a.size from rfl, at_rev b a.size hlt, e46]
    have ee : b.size - 1 - a.size = b.size - a.size - 1 := by omega
    simp only [ee]; rfl
  · rw [dif_neg hlt, List.getElem?_eq_none (by simp; exact Nat.not_lt.1 hlt)]; rfl
attribute [irreducible] sufB
set_option maxRecDepth 100000 in
set_option maxHeartbeats 1000000 in
theorem dnsHasSuffix_calls (a b : ByteArray) (w : World) (h0 : 0 < a.size) (ha : a.size ≤ 4611686018427387904) (hb : b.size ≤ 4611686018427387904) :
    Calls Tryz.prog 103 #[.string a, .string b] w fun e w' => e = .returned (.bool (sufB a b)) ∧ ∃ n, w.drewN n = w' := by
  by_cases hs : b.size < a.size
  · rw [sufB_short a b hs]
    go_enter Tryz.func103, Tryz.ntmps103
    go_wp2
    go_ret
    exact ⟨rfl, 0, rfl⟩
  · have hs' : a.size ≤ b.size := by omega
    have E1 := Lib.hid (sufB_pre a b)
    have E2 := Lib.hid (sufB_end a b h0 hs')
    generalize sufB a b = R at E1 E2 ⊢
    go_enter Tryz.func103, Tryz.ntmps103
    go_wp2
    obtain ⟨d, hd⟩ : ∃ d : Nat, d + a.size = b.size := ⟨b.size - a.size, by omega⟩
    have hd' : (a.size : Int) - (b.size : Int) = -(d : Int) := by omega
    rw [hd']
    clear hd'
    have hD := Lib.hid hd
    have hd1 : d + a.size ≤ b.size := by omega
    clear hd
    go_loopw [7] (fun i wr => ∃ x : Int, -1 ≤ x ∧ x < a.size ∧ i = .int .i64 x ∧ (∃ n, w.drewN n = wr) ∧ Hid (preC (revTo a (x + 1).toNat) (revTo b (x + 1 + b.size - a.size).toNat) = preC (revTo a a.size) (revTo b b.size))) (fun i _ => (intOf i + 1).toNat)
    case atStart => exact ⟨_, by omega, by omega, rfl, ⟨0, rfl⟩, by rw [show ((a.size : Int) - 1 + 1).toNat = a.size by omega, show ((a.size : Int) - 1 + 1 + b.size - a.size).toNat = b.size by omega]; exact rfl⟩
    case round =>
      obtain ⟨x, hx1, hx2, rfl, ⟨n, rfl⟩, hR⟩ := hrel
      by_cases hx : 0 ≤ x
      · obtain ⟨i, rfl⟩ := Int.eq_ofNat_of_zero_le hx
        have hi' : i < a.size := by omega
        have hj' : i + d < b.size := by omega
        go_wp2
        have w1 : IntKind.i64.wrap ((i : Int) + d) = (i : Int) + d := IntWalk.i64_in _ (by omega)
        have w2 : 0 ≤ (i : Int) + d := by omega
        have w3 : ((i : Int) + d).toNat = i + d := by omega
        have w4 : (i : Int) + d < b.size := by omega
        go_quiet (fail)
        clear w1
        have hrow := hR.out
        rw [show ((i : Int) + 1).toNat = i + 1 by omega, show ((i : Int) + 1 + b.size - a.size).toNat = i + d + 1 by have := hD.out; omega, revTo_succ a i hi', revTo_succ b (i + d) hj', preC_cons] at hrow
        have hend : ∀ k : Int, k = (i : Int) - 1 → (k + 1).toNat = i ∧ (k + 1 + b.size - a.size).toNat = i + d := fun k hk => by have := hD.out; omega
        have HE := Lib.hid hend
        clear hend hR
        generalize a[i] = p at *
        generalize b[i + d] = q at *
        by_cases hpq : p.toNat = q.toNat
        · have hpq' : p = q := UInt8.toNat_inj.1 hpq
          subst hpq'
          have hR2 := Lib.hid hrow
          clear hrow hpq
          go_wp2
          go_roundw
          case rel => exact ⟨_, by omega, by omega, rfl, ⟨_, rfl⟩, by rw [(HE.out _ rfl).1, (HE.out _ rfl).2]; have h := hR2.out; simp only [beq_self_eq_true, Bool.true_and] at h; exact h⟩
          case measure => simp only [intOf]; omega
        · have hb1 : ((p.toNat : Int) == (q.toNat : Int)) = false := by simp; omega
          have u1 := p.toNat_lt
          have u2 := q.toNat_lt
          by_cases hlt : q.toNat < p.toNat
          · have hl : (low p == low q) = decide (65 ≤ q.toNat ∧ q.toNat ≤ 90 ∧ p.toNat = q.toNat + 32) := by rw [Bool.beq_comm]; exact low_less q p hlt
            rw [hl] at hrow
            have hR2 := Lib.hid hrow
            clear hrow hl hpq
            by_cases c1 : 65 ≤ q.toNat
            · by_cases c2 : q.toNat ≤ 90
              · by_cases c3 : p.toNat = q.toNat + 32
                · have hR3 : Hid (preC (revTo a i) (revTo b (i + d)) = preC (revTo a a.size) (revTo b b.size)) := by
                    have h := hR2.out
                    simp only [c1, c2, c3, true_and, decide_true, Bool.true_and] at h
                    exact h
                  clear hR2
                  go_wp2
                  go_roundw
                  case rel => exact ⟨_, by omega, by omega, rfl, ⟨_, rfl⟩, by rw [(HE.out _ rfl).1, (HE.out _ rfl).2]; exact hR3⟩
                  case measure => simp only [intOf]; omega
                · have hb2 : ((p.toNat : Int) == (q.toNat : Int) + 32) = false := by simp; omega
                  have e0 : preC (revTo a a.size) (revTo b b.size) = false := by rw [← hR2.out]; simp; omega
                  obtain rfl := E1.out e0
                  clear e0
                  go_wp2
                  go_ret
                  exact ⟨rfl, _, rfl⟩
              · have e0 : preC (revTo a a.size) (revTo b b.size) = false := by rw [← hR2.out]; simp; omega
                obtain rfl := E1.out e0
                clear e0
                go_wp2
                go_ret
                exact ⟨rfl, _, rfl⟩
            · have e0 : preC (revTo a a.size) (revTo b b.size) = false := by rw [← hR2.out]; simp; omega
              obtain rfl := E1.out e0
              clear e0
              go_wp2
              go_ret
              exact ⟨rfl, _, rfl⟩
          · have hl : (low p == low q) = decide (65 ≤ p.toNat ∧ p.toNat ≤ 90 ∧ q.toNat = p.toNat + 32) := low_less p q (by omega)
            rw [hl] at hrow
            have hR2 := Lib.hid hrow
            clear hrow hl hpq
            by_cases c1 : 65 ≤ p.toNat
            · by_cases c2 : p.toNat ≤ 90
              · by_cases c3 : q.toNat = p.toNat + 32
                · have hR3 : Hid (preC (revTo a i) (revTo b (i + d)) = preC (revTo a a.size) (revTo b b.size)) := by
                    have h := hR2.out
                    simp only [c1, c2, c3, true_and, decide_true, Bool.true_and] at h
                    exact h
                  clear hR2
                  go_wp2
                  go_roundw
                  case rel => exact ⟨_, by omega, by omega, rfl, ⟨_, rfl⟩, by rw [(HE.out _ rfl).1, (HE.out _ rfl).2]; exact hR3⟩
                  case measure => simp only [intOf]; omega
                · have hb2 : ((q.toNat : Int) == (p.toNat : Int) + 32) = false := by simp; omega
                  have e0 : preC (revTo a a.size) (revTo b b.size) = false := by rw [← hR2.out]; simp; omega
                  obtain rfl := E1.out e0
                  clear e0
                  go_wp2
                  go_ret
                  exact ⟨rfl, _, rfl⟩
              · have e0 : preC (revTo a a.size) (revTo b b.size) = false := by rw [← hR2.out]; simp; omega
                obtain rfl := E1.out e0
                clear e0
                go_wp2
                go_ret
                exact ⟨rfl, _, rfl⟩
            · have e0 : preC (revTo a a.size) (revTo b b.size) = false := by rw [← hR2.out]; simp; omega
              obtain rfl := E1.out e0
              clear e0
              go_wp2
              go_ret
              exact ⟨rfl, _, rfl⟩
      · obtain rfl : x = -1 := by omega
        have hb0 : preC (revTo a a.size) (revTo b b.size) = true := by
          rw [← hR.out, show ((-1 : Int) + 1).toNat = 0 by omega, revTo_zero]; rfl
        have hE := E2.out hb0
        clear hb0 hR hx
        by_cases c1 : a[0].toNat = 46
        · simp only [c1, decide_true, Bool.true_or] at hE
          subst hE
          have c1' : ((a[0].toNat : Int) != 46) = false := by simp [c1]
          clear c1
          go_wp2
          go_ret
          exact ⟨rfl, _, rfl⟩
        · have c1' : ((a[0].toNat : Int) != 46) = true := by simp; omega
          by_cases c2 : a.size < b.size
          · have hne : ¬ a.size = b.size := by omega
            simp only [c1, hne, decide_false, Bool.false_or, c2, dif_pos] at hE
            have hk : b.size - a.size - 1 < b.size := by omega
            clear hne
            by_cases c3 : b[b.size - a.size - 1].toNat = 46
            · have c3' : ((b[b.size - a.size - 1].toNat : Int) != 46) = false := by simp [c3]
              simp only [c3, decide_true] at hE
              subst hE
              clear c3 c1
              go_wp2
              go_ret
              exact ⟨rfl, _, rfl⟩
            · have c3' : ((b[b.size - a.size - 1].toNat : Int) != 46) = true := by simp; omega
              simp only [c3, decide_false] at hE
              subst hE
              clear c3 c1
              go_wp2
              go_ret
              exact ⟨rfl, _, rfl⟩
          · have hne : a.size = b.size := by omega
            simp only [hne, decide_true, Bool.or_true, Bool.true_or] at hE
            subst hE
            clear hne c1
            go_wp2
            go_ret
            exact ⟨rfl, _, rfl⟩
end Go.Proofs.YtblabjfjhlablaaGreatDoor
