/- Rows of certificates: one laid in among the others. -/
import Derived.Test.YtblabjfjhlablaaGreatDoorOb
import Derived.Laws.CopyOwn
import Derived.Lib.Overlaps
import Derived.Lib.AppendZerosOnto
import Derived.Deep.RegionLaw
namespace Go.Proofs.YtblabjfjhlablaaGreatDoor
open Go.RowKit Go.Sort Nc
/-- One laid in at place k. -/
def insK {α : Type} (k : Nat) (m : α) (f : Nat → α) (j : Nat) : α := if j < k then f j else if j = k then m else f (j - 1)
theorem insK_lt {α : Type} {k j : Nat} {m : α} {f : Nat → α} (h : j < k) : insK k m f j = f j := by simp [insK, h]
theorem insK_at {α : Type} {k : Nat} {m : α} {f : Nat → α} : insK k m f k = m := by simp [insK]
theorem insK_gt {α : Type} {k j : Nat} {m : α} {f : Nat → α} : insK k m f (k + 1 + j) = f (k + j) := by
  unfold insK
  rw [if_neg (by omega), if_neg (by omega), show k + 1 + j - 1 = k + j by omega]
theorem insK_all {α β : Type} {P : α → β → Prop} {k n : Nat} {m : α} {m' : β} {f : Nat → α} {f' : Nat → β} (hm : P m m') (h : ∀ j, j < n → P (f j) (f' j)) (hk : k ≤ n) (j : Nat) (hj : j < n + 1) : P (insK k m f j) (insK k m' f' j) := by
  unfold insK
  by_cases h1 : j < k
  · rw [if_pos h1, if_pos h1]; exact h j (by omega)
  · rw [if_neg h1, if_neg h1]
    by_cases h2 : j = k
    · rw [if_pos h2, if_pos h2]; exact hm
    · rw [if_neg h2, if_neg h2]; exact h _ (by omega)
theorem flatC_congr {zs zs' : Nat → GSlots} {ks ks' : Nat → GC} {n : Nat} (h : ∀ k, k < n → zs k = zs' k ∧ ks k = ks' k) : flatC zs ks n = flatC zs' ks' n := by
  induction n with
  | zero => rfl
  | succ n ih =>
    obtain ⟨h1, h2⟩ := h n (by omega)
    rw [flatC_succ, flatC_succ, ih (fun k hk => h k (by omega)), h1, h2]
theorem flatC_add (zs : Nat → GSlots) (ks : Nat → GC) (a b : Nat) : flatC zs ks (a + b) = flatC zs ks a ++ flatC (fun j => zs (a + j)) (fun j => ks (a + j)) b := by
  induction b with
  | zero => simp [flatC]
  | succ b ih => rw [show a + (b + 1) = a + b + 1 by omega, flatC_succ, flatC_succ, ih, List.append_assoc]
theorem flatC_ins (zs : Nat → GSlots) (ks : Nat → GC) (z : GSlots) (m : GC) {k n : Nat} (hk : k ≤ n) : flatC (insK k z zs) (insK k m ks) (n + 1) = (flatC zs ks n).take (k * 12) ++ ((z.cells m).toList ++ (flatC zs ks n).drop (k * 12)) := by
  obtain ⟨b, rfl⟩ : ∃ b, n = k + b := ⟨n - k, by omega⟩
  rw [show k + b + 1 = k + 1 + b by omega, flatC_add, flatC_succ, flatC_add zs ks k b]
  have hl := flatC_len zs ks k
  rw [List.take_left' hl, List.drop_left' hl, insK_at, insK_at, List.append_assoc]
  congr 1
  · exact flatC_congr fun j hj => ⟨insK_lt hj, insK_lt hj⟩
  · congr 1
    exact flatC_congr fun j _ => ⟨insK_gt, insK_gt⟩
theorem listOf_add (ks : Nat → GC) (a b : Nat) : listOf ks (a + b) = listOf ks a ++ listOf (fun j => ks (a + j)) b := by
  unfold listOf
  rw [List.range_add, List.map_append, List.map_map]
  rfl
theorem listOf_congr {ks ks' : Nat → GC} {n : Nat} (h : ∀ k, k < n → ks k = ks' k) : listOf ks n = listOf ks' n := List.map_congr_left fun k hk => h k (List.mem_range.1 hk)
theorem listOf_ins (ks : Nat → GC) (m : GC) (k b : Nat) : listOf (insK k m ks) (k + b + 1) = listOf ks k ++ m :: listOf (fun j => ks (k + j)) b := by
  rw [show k + b + 1 = k + 1 + b by omega, listOf_add, listOf_add]
  rw [listOf_congr (ks := insK k m ks) (ks' := ks) fun j hj => insK_lt hj, listOf_congr (ks := fun j => insK k m ks (k + 1 + j)) (ks' := fun j => ks (k + j)) fun j _ => insK_gt]
  have : listOf (fun j => insK k m ks (k + j)) 1 = [m] := by simp [listOf, insK]
  rw [this]; simp
theorem ref_none (X : IpKit) (hX : ∀ a, X.ask [] a = none) (ks : Nat → GC) {k n : Nat} (hk : k ≤ n) : refL X (listOf (insK k GC.none_ ks) (n + 1)) = refL X (listOf ks n) := by
  obtain ⟨b, rfl⟩ : ∃ b, n = k + b := ⟨n - k, by omega⟩
  rw [listOf_ins, listOf_add, refL_insert X hX]
theorem ref_behind (X : IpKit) (ks : Nat → GC) (m : GC) {n : Nat} (h : refL X (listOf ks n) = true) : refL X (listOf (insK n m ks) (n + 1)) = true := by
  have := listOf_ins ks m n 0
  rw [Nat.add_zero] at this
  rw [this]
  exact refL_behind X _ m h
theorem ref_ahead (X : IpKit) (ks : Nat → GC) (m : GC) {n : Nat} (h : refL X (listOf ks n) = true) : refL X (listOf (insK 0 m ks) (n + 1)) = true := by
  have := listOf_ins ks m 0 n
  rw [Nat.zero_add] at this
  rw [this]
  have e : listOf (fun j => ks (0 + j)) n = listOf ks n := listOf_congr fun j _ => by rw [Nat.zero_add]
  rw [e]
  exact refL_ahead X _ m h
theorem ref_iff (ks : Nat → GC) (n : Nat) : refL XIP (listOf ks n) = true ↔ gRefused XIP ks n := by
  have := refL_refused XIP (listOf ks n) ks (fun i hi => listOf_get ks n i hi)
  rwa [listOf_len] at this
/-- A row of certificates, read as a chain. -/
theorem chain_of_row {W : World} {base n : Nat} {v : Value} {zs : Nat → GSlots} {ks : Nat → GC} (h : W.ownsRow base 30 12 v n (flatC zs ks n)) (hc : ∀ k, k < n → CertRd W (zs k) (ks k)) :
    ∃ A c, v = .slice A n c ∧ ChainRd W A n ks zs := by
  obtain ⟨h1, h2⟩ := h
  rcases h2 with ⟨rfl, rfl⟩ | ⟨g, cap, cur, rfl, hg, hh, hcp, hm, hs, ht⟩
  · exact ⟨none, 0, rfl, ⟨fun h => absurd h (by omega), fun k hk => absurd hk (by omega)⟩⟩
  · have hgb : Blk W g 30 cur := hh
    have hcell : ∀ k, k < n → ∀ j, j < 12 → W.cell? ⟨g, 0 + k * 12 + j, none⟩ = ((zs k).cells (ks k))[j]? := fun k hk j hj => by
      rw [Nat.zero_add, hgb.cell, ← flatC_get zs ks n k j hk hj, ← ht, List.getElem?_take_of_lt (by omega), Array.getElem?_toList]
    refine ⟨_, cap, rfl, ⟨fun _ => ⟨g, 0, rfl, fun k hk j hj => ?_⟩, fun k hk => hc k hk⟩⟩
    have q := hcell k hk
    match j, hj with
    | 0, _ => exact ⟨q 0 (by omega), q 4 (by omega), q 8 (by omega)⟩
    | 1, _ => exact ⟨q 1 (by omega), q 5 (by omega), q 9 (by omega)⟩
    | 2, _ => exact ⟨q 2 (by omega), q 6 (by omega), q 10 (by omega)⟩
    | 3, _ => exact ⟨q 3 (by omega), q 7 (by omega), q 11 (by omega)⟩
theorem chain_cell {w : World} {A : Option Addr} {n : Nat} {ks : Nat → GC} {zs : Nat → GSlots} (h : ChainRd w A n ks zs) {k g off r : Nat} (hk : k < n) (hA : A = some ⟨g, off, none⟩) (hr : r < 12) : w.cell? ⟨g, off + k * 12 + r, none⟩ = ((zs k).cells (ks k))[r]? := by
  obtain ⟨a0, a1, a2, a3, a4, a5, a6, a7, a8, a9, a10, a11⟩ := certs12 h hk hA rfl
  match r, hr with
  | 0, _ => exact a0
  | 1, _ => exact a1
  | 2, _ => exact a2
  | 3, _ => exact a3
  | 4, _ => exact a4
  | 5, _ => exact a5
  | 6, _ => exact a6
  | 7, _ => exact a7
  | 8, _ => exact a8
  | 9, _ => exact a9
  | 10, _ => exact a10
  | 11, _ => exact a11
/-- A chain's cells, read as a list. -/
theorem chain_reads {w : World} {A : Option Addr} {n : Nat} {ks : Nat → GC} {zs : Nat → GSlots} (h : ChainRd w A n ks zs) : Reads w w.heap.size 12 A n (flatC zs ks n) := by
  refine ⟨flatC_len zs ks n, fun h0 => ?_⟩
  obtain ⟨g, off, e, hc⟩ := h.at_ h0
  refine ⟨_, e, World.block_lt_of_cell? w _ (hc 0 h0 0 (by omega)).1, fun j u hu => ?_⟩
  have hj : j < n * 12 := by have := (List.getElem?_eq_some_iff.1 hu).1; rw [flatC_len] at this; exact this
  have ej : j = j / 12 * 12 + j % 12 := by omega
  have hk : j / 12 < n := by omega
  have hr : j % 12 < 12 := by omega
  rw [ej, flatC_get zs ks n (j / 12) (j % 12) hk hr, ← chain_cell h hk e hr] at hu
  rw [add_none, ej, ← Nat.add_assoc]
  exact hu
theorem flatC_ones (zs : Nat → GSlots) (ks : Nat → GC) (n : Nat) : ∀ u ∈ flatC zs ks n, u.oneCell' = true := fun u hu => by
  unfold flatC at hu
  obtain ⟨k, _, hk⟩ := List.mem_flatMap.1 hu
  simp only [GSlots.cells, List.mem_cons, List.not_mem_nil, or_false] at hk
  rcases hk with rfl | rfl | rfl | rfl | rfl | rfl | rfl | rfl | rfl | rfl | rfl | rfl <;> rfl
theorem splice_shift {α : Type} {L xs vs : List α} {a : Nat} (ha : a ≤ xs.length) (hL : L.take xs.length = xs) (hl : xs.length + vs.length ≤ L.length) :
    (splice (splice L (a + vs.length) (xs.drop a)) a vs).take (xs.length + vs.length) = xs.take a ++ (vs ++ xs.drop a) := by
  have hT : (xs.drop a).length = xs.length - a := List.length_drop
  have e1 : (splice L (a + vs.length) (xs.drop a)).take a = xs.take a := by
    unfold splice
    rw [List.take_append_of_le_length (by rw [List.length_take]; omega), List.take_take, Nat.min_eq_left (by omega)]
    have := congrArg (List.take a) hL
    rw [List.take_take, Nat.min_eq_left ha] at this
    exact this
  have e2 : (splice L (a + vs.length) (xs.drop a)).drop (a + vs.length) = xs.drop a ++ L.drop (a + vs.length + (xs.drop a).length) := by
    unfold splice
    exact List.drop_left' (by rw [List.length_take]; omega)
  show (List.take a _ ++ (vs ++ List.drop (a + vs.length) _)).take _ = _
  rw [e1, e2, ← List.append_assoc vs, ← List.append_assoc (xs.take a)]
  exact List.take_left' (by simp only [List.length_append, List.length_take, List.length_drop]; omega)
theorem splice_fill {α : Type} {R xs vs : List α} {a : Nat} (ha : a ≤ xs.length) (hR : R.take a = xs.take a) :
    (splice (splice R a vs) (a + vs.length) (xs.drop a)).take (xs.length + vs.length) = xs.take a ++ (vs ++ xs.drop a) := by
  have e1 : (splice R a vs).take (a + vs.length) = xs.take a ++ vs := by
    unfold splice
    rw [hR, ← List.append_assoc]
    exact List.take_left' (by simp only [List.length_append, List.length_take]; omega)
  show (List.take (a + vs.length) _ ++ (xs.drop a ++ List.drop _ _)).take _ = _
  rw [e1, List.append_assoc, ← List.append_assoc vs, ← List.append_assoc (xs.take a)]
  rw [← List.append_assoc]
  exact List.take_left' (by simp only [List.length_append, List.length_take, List.length_drop]; omega)
/-- The run of 'copy' into a row known whole, for elements of any size. -/
theorem run_copy_rows {P : Program} (w : World) (dT sT ty elem : TypeId) (i0 : TypeInfo) (g o dLen dCap : Nat) (a : Addr) (sLen sCap : Nat) (cur : Array Value) (t : TypeId) (cs : List Value)
    (hu : P.underlying dT = some (.slice elem)) (hi : P.info? elem = some i0) (hg : Blk w g t cur) (hn : cs.length = Nat.min sLen dLen * i0.size)
    (hsrc : ∀ j v, cs[j]? = some v → w.cell? (a.add j) = some v) (hfit : o + cs.length ≤ cur.size) (h1 : ∀ v ∈ cs, v.oneCell' = true) :
    (Builtin.copy_ #[dT, sT] ty #[.slice (some ⟨g, o, none⟩) dLen dCap, .slice (some a) sLen sCap]).run P w =
      .ok (goInt (Nat.min sLen dLen)) (w.setRow g (splice cur.toList o cs).toArray) := by
  have hl := run_loadCells_list (P := P) w a cs hsrc
  have hst := run_storeCells_at P g o t cs 0 cur w hg (by simpa using hfit) h1
  simp [Builtin.copy_, run_underlying hu, Builtin.lenOf, Builtin.firstCells, sizeOf, typeInfo, hi, ← hn, hl, hst, splice]
end Go.Proofs.YtblabjfjhlablaaGreatDoor
/- slices.Clone and slices.Insert of certificates. -/
namespace Go.Proofs.YtblabjfjhlablaaGreatDoor
open Go.RowKit Go.Sort Nc
/-- The run of 'copy' into a row known whole, for elements of any size. -/
theorem run_copy_list {P : Program} (w : World) (dT sT ty elem : TypeId) (i0 : TypeInfo) (g o dLen dCap : Nat) (a : Addr) (sLen sCap : Nat) (cur : List Value) (t : TypeId) (cs : List Value)
    (hu : P.underlying dT = some (.slice elem)) (hi : P.info? elem = some i0) (hg : Blk w g t cur.toArray) (hn : cs.length = Nat.min sLen dLen * i0.size)
    (hsrc : ∀ j v, cs[j]? = some v → w.cell? (a.add j) = some v) (hfit : o + cs.length ≤ cur.length) (h1 : ∀ v ∈ cs, v.oneCell' = true) :
    (Builtin.copy_ #[dT, sT] ty #[.slice (some ⟨g, o, none⟩) dLen dCap, .slice (some a) sLen sCap]).run P w =
      .ok (goInt (Nat.min sLen dLen)) (w.setRow g (splice cur o cs).toArray) := by
  have hl := run_loadCells_list (P := P) w a cs hsrc
  have hst := run_storeCells_at P g o t cs 0 cur.toArray w hg (by simpa using hfit) h1
  simp [Builtin.copy_, run_underlying hu, Builtin.lenOf, Builtin.firstCells, sizeOf, typeInfo, hi, ← hn, hl, hst, splice]
theorem only_setRow (w : World) (g : Nat) (cs : Array Value) : Only g w (w.setRow g cs) :=
  Only.of g (by simp [World.setRow]) (fun k _ hk => setRow_other w g k cs hk) rfl rfl rfl
theorem blk_setRow {w : World} {g : Nat} {t : TypeId} {cur : Array Value} (h : Blk w g t cur) (cs : Array Value) : Blk (w.setRow g cs) g t cs := setRow_heap w g cur cs t _ h
theorem wpList_copy_rows {P : Program} {w : World} {ops : Array Oper} {rest : List Oper} {o : Oper} {a : Act} {Q : Exit → Act → World → Prop} (hgd : o.guard = none) (d s : Operand) (dT sT : TypeId)
    (ho : o.op = .call { callee := .builtin .copy, args := #[d, s], argTypes := #[dT, sT] }) (elem : TypeId) (i0 : TypeInfo) (hu : P.underlying dT = some (.slice elem)) (hi : P.info? elem = some i0)
    (g off dLen dCap : Nat) (ad : Addr) (sLen sCap : Nat) (hd : a.eval d = .slice (some ⟨g, off, none⟩) dLen dCap) (hs : a.eval s = .slice (some ad) sLen sCap)
    (cur : List Value) (t : TypeId) (hg : Blk w g t cur.toArray) (cs : List Value) (hn : cs.length = Nat.min sLen dLen * i0.size)
    (hsrc : ∀ j v, cs[j]? = some v → w.cell? (ad.add j) = some v) (hfit : off + cs.length ≤ cur.length) (h1 : ∀ v ∈ cs, v.oneCell' = true)
    (h : ∀ w', Hid (Blk w' g t (splice cur off cs).toArray ∧ Only g w w') → wpList P ops Q rest (a.put o.dst (goInt (Nat.min sLen dLen))) w') : wpList P ops Q (o :: rest) a w := by
  refine wpList_plain hgd fun K hK => ?_
  have hrun := run_copy_list (P := P) w dT sT o.type elem i0 g off dLen dCap ad sLen sCap cur t cs hu hi hg hn hsrc hfit h1
  unfold Oper.wp
  simp [execOp, ho, resolve, invoke, builtin, hd, hs, hrun, Result.andThen]
  exact hK _ _ (h _ ⟨blk_setRow hg _, only_setRow _ _ _⟩)
theorem step_copy_rows {P : Program} {ops : Array Oper} {o : Oper} {a : Act} {w : World} {K : Act → World → Prop} {Q : Exit → Act → World → Prop} {E : Prop} (hgd : o.guard = none) (d s : Operand) (dT sT : TypeId)
    (ho : o.op = .call { callee := .builtin .copy, args := #[d, s], argTypes := #[dT, sT] }) (elem : TypeId) (i0 : TypeInfo) (hu : P.underlying dT = some (.slice elem)) (hi : P.info? elem = some i0)
    (g off dLen dCap : Nat) (ad : Addr) (sLen sCap : Nat) (hd : a.eval d = .slice (some ⟨g, off, none⟩) dLen dCap) (hs : a.eval s = .slice (some ad) sLen sCap)
    (cur : List Value) (t : TypeId) (hg : Blk w g t cur.toArray) (cs : List Value) (hn : cs.length = Nat.min sLen dLen * i0.size)
    (hsrc : ∀ j v, cs[j]? = some v → w.cell? (ad.add j) = some v) (hfit : off + cs.length ≤ cur.length) (h1 : ∀ v ∈ cs, v.oneCell' = true)
    (h : ∀ w', Hid (Blk w' g t (splice cur off cs).toArray ∧ Only g w w') → K (a.put o.dst (goInt (Nat.min sLen dLen))) w') :
    if Region.wanted o (yielded ops a.tmps) = true then Oper.wp P o a w K Q else E := by
  have hw : Region.wanted o (yielded ops a.tmps) = true := by simp [Region.wanted, hgd]
  rw [if_pos hw]
  have hrun := run_copy_list (P := P) w dT sT o.type elem i0 g off dLen dCap ad sLen sCap cur t cs hu hi hg hn hsrc hfit h1
  unfold Oper.wp
  simp [execOp, ho, resolve, invoke, builtin, hd, hs, hrun, Result.andThen]
  exact h _ ⟨blk_setRow hg _, only_setRow _ _ _⟩
theorem nil37_eq (a : Option Addr) (l c : Nat) (w : World) : (binOp .eql 37 (.slice a l c) (.slice none 0 0)).run Tryz.prog w = .ok (.bool a.isNone) w := by
  have h := run_equal_slice_nil (P := Tryz.prog) w 37 30 a l c Tryz.underlying37
  show ((do pure (Value.bool (← Op.equal 37 (.slice a l c) (.slice none 0 0)))) : Sem Value).run Tryz.prog w = _
  simp only [Sem.run_bind, h, Result.andThen, Sem.run_pure]
theorem empty_own30 (w : World) : (w.alloc (.cells #[] 30)).ownsRow w.heap.size 30 12 (.slice (some ⟨w.heap.size, 0, none⟩) 0 0) 0 [] := ⟨by simp, .inr ⟨w.heap.size, 0, #[], rfl, Nat.le_refl _, heap_alloc_new w _, by simp, by simp [maxLen], by simp, by simp⟩⟩
set_option maxRecDepth 100000 in
theorem clone37_calls (A : Option Addr) (n c : Nat) (xs : List Value) (w : World) (h : Reads w w.heap.size 12 A n xs) (h1 : ∀ u ∈ xs, u.oneCell' = true) (hl : n ≤ 1000000) :
    Calls Tryz.prog 35 #[.slice A n c] w (OwnNew 30 12 n xs w) := by
  obtain ⟨i0, hi0, hz0, hz1, hz2⟩ := info_parts cert_info
  have hnil := nil37_eq
  cases A with
  | none =>
    have : n = 0 := by
      rcases Nat.eq_zero_or_pos n with h0 | h0
      · exact h0
      · obtain ⟨ad, e, _⟩ := h.2 h0; cases e
    subst this
    have : xs = [] := List.eq_nil_of_length_eq_zero (by have := h.1; omega)
    subst this
    clear h
    go_enter Tryz.func35, Tryz.ntmps35
    go_wp2
    go_ret
    exact ⟨_, rfl, ⟨rfl, .inl ⟨rfl, rfl⟩⟩, Below.refl _ _⟩
  | some a =>
    have hw0 : Below w.heap.size w (w.alloc (.cells #[] 30)) := (Below.refl _ _).alloc (Nat.le_refl _) _
    have ho0 := empty_own30 w
    have hrd := h.alloc (Nat.le_refl _) (.cells #[] 30)
    clear h
    go_enter Tryz.func35, Tryz.ntmps35
    go_wp2_with (first
      | (at_builtin
         refine wpList_append_any _ rfl _ (.tmp 6) _ rfl w.heap.size 30 i0 _ 12 288 Tryz.underlying37 hi0 hz0 hz1 hz2 rfl (by omega) (.slice (some ⟨w.heap.size, 0, none⟩) 0 0) 0 [] rfl ho0 w.heap.size (some a) n c _ rfl hrd h1 (by simp only [maxLen]; omega) (by omega) hw0.size ?_
         intro v1 w1 o1 g1 a1)
      | fail)
    have hb1 := hw0.grown g1 hw0.size (fun q hq => (ho0.lt q hq).1)
    have o2 : w1.ownsRow w.heap.size 30 12 v1 n xs := by simpa using o1
    clear o1 g1 a1
    go_wp2
    go_ret
    exact ⟨_, rfl, o2, hb1⟩
/-- One laid in: what is told of slices.Insert. -/
def Laid1 (base n k : Nat) (xs vs : List Value) (w : World) (e : Ending) (w' : World) : Prop := ∃ v, e = .returned v ∧ w'.ownsRow base 30 12 v (n + 1) (xs.take (k * 12) ++ (vs ++ xs.drop (k * 12))) ∧ Below base w w'
set_option maxRecDepth 100000 in
set_option maxHeartbeats 1000000 in
theorem insert_end (base g n c vb : Nat) (xs vs : List Value) (w : World) (ho : w.ownsRow base 30 12 (.slice (some ⟨g, 0, none⟩) n c) n xs) (hc : c ≤ maxLen) (hb : base ≤ w.heap.size) (hv : Blk w vb 30 vs.toArray) (hvl : vs.length = 12) (h1v : ∀ u ∈ vs, u.oneCell' = true) (hn : n ≤ 1000) :
    Calls Tryz.prog 34 #[.slice (some ⟨g, 0, none⟩) n c, .int .i64 n, .slice (some ⟨vb, 0, none⟩) 1 1] w (Laid1 base n n xs vs w) := by
  obtain ⟨i0, hi0, hz0, hz1, hz2⟩ := info_parts cert_info
  have hrd : Reads w w.heap.size 12 (some ⟨vb, 0, none⟩) 1 vs := ⟨by omega, fun _ => ⟨_, rfl, hv.lt, fun j u hu => by rw [add_none, Nat.zero_add]; exact hv.at_ j (by simpa using hu)⟩⟩
  have hxl := ho.1
  have hc63 : c ≤ 9223372036854775807 := by have : maxLen = 9223372036854775807 := rfl; omega
  clear hc
  go_enter Tryz.func34, Tryz.ntmps34
  go_wp2_with (first
    | (at_builtin
       refine wpList_append_any _ rfl _ (.tmp 24) _ rfl base 30 i0 _ 12 288 Tryz.underlying37 hi0 hz0 hz1 hz2 rfl (by omega) (.slice (some ⟨g, 0, none⟩) n c) n xs rfl ho w.heap.size (some ⟨vb, 0, none⟩) 1 1 vs rfl hrd h1v (by simp only [maxLen]; omega) (by omega) hb ?_
       intro v1 w1 o1 g1 a1)
    | fail)
  all_goals have hb1 := (Below.refl base w).grown g1 hb (fun q hq => (ho.lt q hq).1)
  all_goals go_wp2
  all_goals go_ret
  all_goals exact ⟨_, rfl, by rw [List.take_of_length_le (by omega), List.drop_of_length_le (by omega), List.append_nil]; exact o1, hb1⟩
theorem shape_blk {w : World} {g : Nat} {t : TypeId} {cs : Array Value} (h : Blk w g t cs) : w.shape? g = some (t, cs.size) := by
  unfold Blk at h
  simp [World.shape?, h]
theorem frozen_any {w : World} {g : Nat} {t : TypeId} {cs : Array Value} (h : Blk w g t cs) (a : Addr) (ha : a.block = g) : w.frozen? a = false := by
  subst ha
  unfold Blk at h
  simp [World.frozen?, h]
set_option maxRecDepth 100000 in
set_option maxHeartbeats 1000000 in
theorem insert_shift (base g n c k vb : Nat) (cur xs vs : List Value) (w : World) (hbg : base ≤ g) (hb : base ≤ w.heap.size) (hg : Blk w g 30 cur.toArray) (hcl : cur.length = c * 12) (hx : cur.take (n * 12) = xs) (h1x : ∀ u ∈ xs, u.oneCell' = true)
    (hk : k < n) (hroom : n + 1 ≤ c) (hc : c ≤ maxLen) (hv : Blk w vb 30 vs.toArray) (hvl : vs.length = 12) (h1v : ∀ u ∈ vs, u.oneCell' = true) (hvb : vb ≠ g) (hn : n ≤ 1000) :
    Calls Tryz.prog 34 #[.slice (some ⟨g, 0, none⟩) n c, .int .i64 k, .slice (some ⟨vb, 0, none⟩) 1 1] w (Laid1 base n k xs vs w) := by
  obtain ⟨i0, hi0, hz0, hz1, hz2⟩ := info_parts cert_info
  have hxl : xs.length = n * 12 := by rw [← hx, List.length_take]; omega
  have hTl : (xs.drop (k * 12)).length = (n - k) * 12 := by rw [List.length_drop]; omega
  have hc63 : c ≤ 9223372036854775807 := by have : maxLen = 9223372036854775807 := rfl; omega
  have hov : ∀ lb cb, (callFunc 70 #[.slice (some ⟨vb, 0, none⟩) 1 1, .slice (some ⟨g, (k + 1) * 12, none⟩) lb cb]).run Tryz.prog w = .ok (.value (.bool false)) w := fun lb cb => by
    rw [run_callFunc_extern Tryz.func70 (by kernel_rfl) (by kernel_rfl) (by kernel_rfl) (e := Extern.SlicesOverlaps.overlaps #[37, 37] #[4]) (by kernel_rfl),
      Lib.run_overlaps_apart w 37 4 30 Tryz.underlying37 12 (fun w => by simp [sizeOf, typeInfo, hi0, hz1]) ⟨vb, 0, none⟩ ⟨g, (k + 1) * 12, none⟩ 1 1 lb cb hvb 30 30 _ _ (shape_blk hv) (shape_blk hg) (by rw [List.size_toArray, hcl]; omega) (frozen_any hv _ rfl) (frozen_any hv _ rfl)]
    rfl
  have hsrc1 : ∀ j v, (xs.drop (k * 12))[j]? = some v → w.drew.cell? ((⟨g, k * 12, none⟩ : Addr).add j) = some v := fun j v hj => by
    have hj2 : j < (xs.drop (k * 12)).length := (List.getElem?_eq_some_iff.1 hj).1
    rw [List.getElem?_drop, ← hx, List.getElem?_take_of_lt (by omega)] at hj
    rw [add_none]
    exact hg.drew.at_ _ (by simpa using hj)
  have h1T : ∀ u ∈ xs.drop (k * 12), u.oneCell' = true := fun u hu => h1x u (List.mem_of_mem_drop hu)
  obtain ⟨T, hT⟩ : ∃ T, T = xs.drop (k * 12) := ⟨_, rfl⟩
  rw [← hT] at hTl hsrc1 h1T
  have hR : (splice (splice cur (k * 12 + vs.length) T) (k * 12) vs).take ((n + 1) * 12) = xs.take (k * 12) ++ (vs ++ T) := by
    have := splice_shift (vs := vs) (a := k * 12) (L := cur) (xs := xs) (by omega) (by rw [hxl]; exact hx) (by omega)
    rw [hxl, hvl, ← hT] at this
    rw [hvl, show (n + 1) * 12 = n * 12 + 12 by omega]
    exact this
  have hlA : (splice cur (k * 12 + vs.length) T).length = cur.length := length_splice _ _ _ (by omega)
  have hlB : (splice (splice cur (k * 12 + vs.length) T) (k * 12) vs).length = cur.length := by rw [length_splice _ _ _ (by omega), hlA]
  rw [hvl, show k * 12 + 12 = (k + 1) * 12 by omega] at hR hlA hlB
  have e1 : IntKind.i64.wrap ((k : Int) + 1) = (k : Int) + 1 := by rw [IntKind.wrap_i64]; omega
  have e2 : IntKind.i64.wrap ((n : Int) + 1) = (n : Int) + 1 := by rw [IntKind.wrap_i64]; omega
  have HR := Lib.hid hR
  clear hR
  go_enter Tryz.func34, Tryz.ntmps34
  go_wp2_with (simp only [hov])
  have hb2 : ¬ (c = k + 1) := by omega
  have hb4 : ¬ (c = k) := by omega
  have hb1 : (0 : Int) ≤ (k : Int) + 1 := by omega
  have hin : k ≤ n := by omega
  have hin1 : k ≤ n + 1 := by omega
  have hb3 : (k : Int) ≤ (n : Int) + 1 := by omega
  go_region_law ((with_reducible refine step_copy_rows rfl (.tmp 73) (.tmp 76) 37 37 rfl 30 i0 Tryz.underlying37 hi0 g ((k + 1) * 12) (n - k) (c - (k + 1)) ⟨g, k * 12, none⟩ (n + 1 - k) (c - k) (by simp [Act.eval, Act.put]) (by simp [Act.eval, Act.put]) cur 30 hg.drew T (by rw [hz1, hTl]; simp only [Nat.min_def]; split <;> omega) hsrc1 (by omega) h1T ?_); intro w3 h3)
  all_goals have hv3 : Blk w3 vb 30 vs.toArray := h3.out.2.blk hv.drew hvb
  all_goals go_wp2_with (first
    | ((with_reducible refine wpList_copy_rows rfl (.tmp 80) (.tmp 81) 37 37 rfl 30 i0 Tryz.underlying37 hi0 g (k * 12) (n + 1 - k) (c - k) ⟨vb, 0, none⟩ 1 1 (by simp [Act.eval]) (by simp [Act.eval]) _ 30 h3.out.1 vs (by rw [hz1, hvl]; simp only [Nat.min_def]; split <;> omega) (fun j v hj => by rw [add_none, Nat.zero_add]; exact hv3.at_ _ (by simpa using hj)) (by omega) h1v ?_); intro w4 h4)
    | fail)
  all_goals have hb4 := ((Below.refl base w).drew.trans ((h3.out.2.below base hbg hb).trans (h4.out.2.below base hbg (Nat.le_trans hb h3.out.2.size))))
  all_goals go_ret
  all_goals exact ⟨_, rfl, ⟨by rw [List.length_append, List.length_append, List.length_take, List.length_drop]; omega, .inr ⟨g, c, _, rfl, hbg, h4.out.1, hroom, hc, by rw [List.size_toArray, hlB, hcl], by rw [← hT]; exact HR.out⟩⟩, hb4⟩
set_option maxRecDepth 100000 in
set_option maxHeartbeats 1000000 in
theorem insert_grow (base g n k vb : Nat) (cur vs : List Value) (w : World) (hb : base ≤ w.heap.size) (hg : Blk w g 30 cur.toArray) (hcl : cur.length = n * 12) (h1x : ∀ u ∈ cur, u.oneCell' = true)
    (hk : k < n) (hv : Blk w vb 30 vs.toArray) (hvl : vs.length = 12) (h1v : ∀ u ∈ vs, u.oneCell' = true) (hn : n ≤ 1000) :
    Calls Tryz.prog 34 #[.slice (some ⟨g, 0, none⟩) n n, .int .i64 k, .slice (some ⟨vb, 0, none⟩) 1 1] w (Laid1 base n k cur vs w) := by
  obtain ⟨i0, hi0, hz0, hz1, hz2⟩ := info_parts cert_info
  have hTl : (cur.drop (k * 12)).length = (n - k) * 12 := by rw [List.length_drop]; omega
  have hol : (cur.take (k * 12)).length = k * 12 := by rw [List.length_take]; omega
  have hold : (Builtin.firstCells i0.size k (.slice (some ⟨g, 0, none⟩) k n)).run Tryz.prog w.drew = .ok (cur.take (k * 12)).toArray w.drew := by
    rw [hz1]
    exact run_firstCells_some w.drew 12 k ⟨g, 0, none⟩ k n (cur.take (k * 12)) hol (fun j v hj => by
      have hj2 := (List.getElem?_eq_some_iff.1 hj).1
      rw [List.getElem?_take_of_lt (by omega)] at hj
      rw [add_none, Nat.zero_add]
      exact hg.drew.at_ _ (by simpa using hj))
  obtain ⟨G, ROW, hGn, hG63, hrl, hrs, hrt, hrz⟩ : ∃ (G : Nat) (ROW : List Value), n + 1 ≤ G ∧ G ≤ maxLen ∧ ROW.length = G * 12 ∧ (n + 1) * 12 ≤ ROW.length ∧ ROW.take (k * 12) = cur.take (k * 12) ∧ ∀ ty, (Builtin.append_ #[37, 3] ty #[.slice (some ⟨g, 0, none⟩) k n, .int .i64 ((n : Int) + 1 - (k : Int))]).run Tryz.prog w = .ok (.slice (some ⟨w.heap.size, 0, none⟩) (n + 1) G) (w.drew.alloc (.cells ROW.toArray 30)) := by
    obtain ⟨Z, hZ, hZc⟩ : ∃ Z : Value, i0.zero = some Z ∧ Z.cells.size = 12 := ⟨_, hz0, by rfl⟩
    have hzc : ∀ m, (Builtin.zeroCells Z.cells m).size = m * 12 := fun m => by simp [Builtin.zeroCells, hZc]
    have hGn : n + 1 ≤ grownCap w (n + 1) n 30 := grownCap_ge w _ _ _
    refine ⟨grownCap w (n + 1) n 30, (cur.take (k * 12)) ++ ((Builtin.zeroCells Z.cells (n + 1 - k)).toList ++ (Builtin.zeroCells Z.cells (grownCap w (n + 1) n 30 - (n + 1))).toList), hGn, grownCap_le_maxLen w (n + 1) n 30 (by unfold maxLen; omega), ?_, ?_, ?_, fun ty => ?_⟩
    case refine_4 =>
      have h := Lib.run_append_grow_zeros w 37 3 ty 30 i0 _ .i64 .i64 Tryz.underlying37 Tryz.underlying3 hi0 hZ (some ⟨g, 0, none⟩) k n (cur.take (k * 12)) hold (n + 1 - k) (by omega) (by omega) (by omega) (by omega) (by rw [hz2]; omega) (by rw [hz2, show k + (n + 1 - k) = n + 1 by omega]; exact growslice_fits (by omega) (by omega))
      rw [show k + (n + 1 - k) = n + 1 by omega] at h
      rw [show (n : Int) + 1 - (k : Int) = ((n + 1 - k : Nat) : Int) by omega]
      rw [h]
      congr 3
      apply Array.ext'
      simp
    · rw [List.length_append, List.length_append, hol, Array.length_toList, Array.length_toList, hzc, hzc]; omega
    · rw [List.length_append, List.length_append, hol, Array.length_toList, Array.length_toList, hzc, hzc]; omega
    · exact List.take_left' hol
  obtain ⟨T, hT⟩ : ∃ T, T = cur.drop (k * 12) := ⟨_, rfl⟩
  have hR : (splice (splice ROW (k * 12) vs) ((k + 1) * 12) T).take ((n + 1) * 12) = cur.take (k * 12) ++ (vs ++ T) := by
    have := splice_fill (vs := vs) (a := k * 12) (R := ROW) (xs := cur) (by omega) hrt
    rw [hcl, hvl, ← hT] at this
    rw [show (n + 1) * 12 = n * 12 + 12 by omega, show (k + 1) * 12 = k * 12 + 12 by omega]
    exact this
  have hlA : (splice ROW (k * 12) vs).length = ROW.length := length_splice _ _ _ (by omega)
  rw [← hT] at hTl
  have hlB : (splice (splice ROW (k * 12) vs) ((k + 1) * 12) T).length = ROW.length := by rw [length_splice _ _ _ (by omega), hlA]
  have h1T : ∀ u ∈ T, u.oneCell' = true := fun u hu => h1x u (List.mem_of_mem_drop (hT ▸ hu))
  have hsT : ∀ (W : World), Blk W g 30 cur.toArray → ∀ j v, T[j]? = some v → W.cell? ((⟨g, k * 12, none⟩ : Addr).add j) = some v := fun W hW j v hj => by
    rw [hT, List.getElem?_drop] at hj
    rw [add_none]
    exact hW.at_ _ (by simpa using hj)
  have hN : Blk (w.alloc (.cells ROW.toArray 30)).drew w.heap.size 30 ROW.toArray := Blk.new w 30 ROW.toArray
  have hgw : g ≠ w.heap.size := by have := hg.lt; omega
  have hvw : vb ≠ w.heap.size := by have := hv.lt; omega
  have hg1 := (hg.alloc (.cells ROW.toArray 30)).drew
  have hv1 := (hv.alloc (.cells ROW.toArray 30)).drew
  have hB1 := ((Below.refl base w).alloc hb (.cells ROW.toArray 30)).drew
  have HR := Lib.hid (And.intro hR (And.intro hlB hrl))
  clear hR hold hrt hlB
  have e1 : IntKind.i64.wrap ((k : Int) + 1) = (k : Int) + 1 := by rw [IntKind.wrap_i64]; omega
  have e2 : IntKind.i64.wrap ((n : Int) + 1) = (n : Int) + 1 := by rw [IntKind.wrap_i64]; omega
  have e3 : IntKind.i64.wrap ((n : Int) + 1 - (k : Int)) = (n : Int) + 1 - (k : Int) := by rw [IntKind.wrap_i64]; omega
  have hG64 : G ≤ 9223372036854775807 := by have : maxLen = 9223372036854775807 := rfl; omega
  have hb2 : ¬ (G = k + 1) := by omega
  have hb4 : ¬ (G = k) := by omega
  have hb5 : ¬ (n = k) := by omega
  have hb1 : (0 : Int) ≤ (k : Int) + 1 := by omega
  have hin : k ≤ n := by omega
  have hin1 : k ≤ n + 1 := by omega
  have hb3 : (k : Int) ≤ (n : Int) + 1 := by omega
  have hz3 : (n : Int) < (n : Int) + 1 := by omega
  go_enter Tryz.func34, Tryz.ntmps34
  go_wp2_with (first
    | (at_builtin; (with_reducible refine Lib.wpList_append_run _ rfl _ _ _ _ rfl _ _ rfl rfl _ _ (hrz _) ?_))
    | ((with_reducible refine wpList_copy_rows rfl (.tmp 43) (.tmp 44) 37 37 rfl 30 i0 Tryz.underlying37 hi0 w.heap.size (k * 12) (n + 1 - k) (G - k) ⟨vb, 0, none⟩ 1 1 (by simp [Act.eval]) (by simp [Act.eval]) ROW 30 hN vs (by rw [hz1, hvl]; simp only [Nat.min_def]; split <;> omega) (fun j v hj => by rw [add_none, Nat.zero_add]; exact hv1.at_ _ (by simpa using hj)) (by omega) h1v ?_); intro w3 h3)
    | fail)
  have hg3 := (h3.out.2.blk hg1 hgw).drew
  go_region_law ((with_reducible refine step_copy_rows rfl (.tmp 50) (.tmp 53) 37 37 rfl 30 i0 Tryz.underlying37 hi0 w.heap.size ((k + 1) * 12) (n - k) (G - (k + 1)) ⟨g, k * 12, none⟩ (n - k) (n - k) (by simp [Act.eval, Act.put]) (by simp [Act.eval, Act.put]) _ 30 h3.out.1.drew T (by rw [hz1, hTl]; simp only [Nat.min_def]; split <;> omega) (hsT _ hg3) (by omega) h1T ?_); intro w4 h4)
  all_goals go_wp2
  all_goals have s2 := Nat.le_trans hb hB1.size
  all_goals have s3 : base ≤ w3.heap.size := Nat.le_trans s2 h3.out.2.size
  all_goals have hb4 := hB1.trans ((h3.out.2.below base hb s2).trans ((Below.refl base w3).drew.trans (h4.out.2.below base hb s3)))
  all_goals go_ret
  all_goals exact ⟨_, rfl, ⟨by rw [List.length_append, List.length_append, List.length_take, List.length_drop]; omega, .inr ⟨w.heap.size, G, _, rfl, hb, h4.out.1, hGn, hG63, by rw [List.size_toArray, HR.out.2.1, HR.out.2.2], by rw [← hT]; exact HR.out.1⟩⟩, hb4⟩
/-- slices.Insert of one certificate into a row of the call's own. -/
theorem insert_calls (base n k vb : Nat) (v : Value) (xs vs : List Value) (w : World) (ho : w.ownsRow base 30 12 v n xs) (h0 : n ≠ 0) (hk : k ≤ n) (hn : n ≤ 1000) (hb : base ≤ w.heap.size) (h1x : ∀ u ∈ xs, u.oneCell' = true)
    (hv : Blk w vb 30 vs.toArray) (hvl : vs.length = 12) (h1v : ∀ u ∈ vs, u.oneCell' = true) (hvb : ∀ g, v.ownBlock = some g → vb ≠ g) :
    Calls Tryz.prog 34 #[v, .int .i64 k, .slice (some ⟨vb, 0, none⟩) 1 1] w (Laid1 base n k xs vs w) := by
  have ho' := ho
  obtain ⟨h1, h2⟩ := ho
  rcases h2 with ⟨_, e⟩ | ⟨g, c, cur, rfl, hbg, hh, hnc, hc, hs, ht⟩
  · exact absurd e h0
  have hne : vb ≠ g := hvb g rfl
  have hg : Blk w g 30 cur.toList.toArray := hh
  rcases Nat.lt_or_ge k n with hlt | hge
  · rcases Nat.lt_or_ge n c with hr | hr
    · exact insert_shift base g n c k vb cur.toList xs vs w hbg hb hg (by simpa using hs) ht h1x hlt hr hc hv hvl h1v hne hn
    · obtain rfl : n = c := by omega
      have hx : cur.toList = xs := by rw [← ht, List.take_of_length_le (by rw [Array.length_toList]; omega)]
      have := insert_grow base g n k vb cur.toList vs w hb hg (by rw [hx]; exact h1) (hx ▸ h1x) hlt hv hvl h1v hn
      rwa [hx] at this
  · obtain rfl : k = n := by omega
    exact insert_end base g k c vb xs vs w ho' hc hb hv hvl h1v hn
end Go.Proofs.YtblabjfjhlablaaGreatDoor
/- The walk of FnChainMore. -/
namespace Go.Proofs.YtblabjfjhlablaaGreatDoor
open Go.RowKit Go.Sort Nc
theorem none_rd (w : World) : CertRd w nilSlots GC.none_ :=
  ⟨⟨fun _ _ => .none_, NetsRd.none_ _ _⟩, ⟨fun _ _ => .none_, NetsRd.none_ _ _⟩, fun _ _ => .none_, ⟨fun _ => none, fun _ => 0, fun k hk => absurd hk (by simp [GC.none_]), fun k hk => absurd hk (by simp [GC.none_])⟩⟩
theorem none_ok : GC.none_.Ok XIP :=
  ⟨fun _ _ c hc => by simp [GC.none_] at hc, fun _ _ c hc => by simp [GC.none_] at hc, fun s hs => by simp [GC.none_] at hs, fun s hs => by simp [GC.none_] at hs, fun s hs => by simp [GC.none_] at hs,
    ⟨Nat.zero_le _, fun n hn => by simp [GC.none_] at hn⟩, ⟨Nat.zero_le _, fun n hn => by simp [GC.none_] at hn⟩, fun a ha => by simp [GC.none_] at ha,
    fun k => by show len4 (fun _ => []) 0 k ≤ _; rw [len4_nil]; omega, fun k => by show len4 (fun _ => []) 0 k ≤ _; rw [len4_nil]; omega, fun k => by show len4 (fun _ => []) 0 k ≤ _; rw [len4_nil]; omega⟩
theorem insK_one {α : Type} {P : α → Prop} {k n : Nat} {m : α} {f : Nat → α} (hm : P m) (h : ∀ j, j < n → P (f j)) (hk : k ≤ n) (j : Nat) (hj : j < n + 1) : P (insK k m f j) :=
  insK_all (P := fun x (_ : α) => P x) (m' := m) (f' := f) hm h hk j hj
/-- The package's answer over a row with one laid in. -/
theorem ins_calls {w W : World} {base n k : Nat} {v : Value} {ks : Nat → GC} {zs : Nat → GSlots} {z : GSlots} {m : GC} (hL : Laid w) (hk : k ≤ n) (hn : n ≤ 1000) (ho : W.ownsRow base 30 12 v (n + 1) ((flatC zs ks n).take (k * 12) ++ ((z.cells m).toList ++ (flatC zs ks n).drop (k * 12))))
    (hb : Below w.heap.size w W) (hc : ∀ j, j < n → CertRd w (zs j) (ks j)) (hm : CertRd w z m) (hok : ∀ j, j < n → (ks j).Ok XIP) (hmk : m.Ok XIP) (R : Bool) (hR : refL XIP (listOf (insK k m ks) (n + 1)) = R) :
    Calls Tryz.prog 21 #[v] W fun e w' => e = .returned (.int .i64 (codeB R)) ∧ Below W.heap.size W w' := by
  rw [← flatC_ins zs ks z m hk] at ho
  obtain ⟨A, c, rfl, hr⟩ := chain_of_row ho (insK_all (P := fun z c => CertRd W z c) (hm.later hb) (fun j hj => (hc j hj).later hb) hk)
  refine xChain_calls (insK k m ks) (insK k z zs) (n + 1) c A W (hL.keep hb) (by omega) (by omega) (insK_one (P := fun c : GC => c.Ok XIP) hmk hok hk) hr R ?_
  rw [← hR]
  exact ref_iff _ _
/-- The same where it stands behind all others. -/
theorem app_calls {w W : World} {base n : Nat} {v : Value} {ks : Nat → GC} {zs : Nat → GSlots} {z : GSlots} {m : GC} (hL : Laid w) (hn : n ≤ 1000) (ho : W.ownsRow base 30 12 v (n + 1) (flatC zs ks n ++ (z.cells m).toList))
    (hb : Below w.heap.size w W) (hc : ∀ j, j < n → CertRd w (zs j) (ks j)) (hm : CertRd w z m) (hok : ∀ j, j < n → (ks j).Ok XIP) (hmk : m.Ok XIP) (hR : refL XIP (listOf ks n) = true) :
    Calls Tryz.prog 21 #[v] W fun e w' => e = .returned (.int .i64 1) ∧ Below W.heap.size W w' := by
  refine ins_calls (base := base) (zs := zs) (k := n) hL (Nat.le_refl n) hn ?_ hb hc hm hok hmk true (ref_behind XIP ks m hR)
  have hl := flatC_len zs ks n
  rw [List.take_of_length_le (by omega), List.drop_of_length_le (by omega), List.append_nil]
  exact ho
/-- The same where it stands ahead of all others. -/
theorem pre_calls {w W : World} {base n : Nat} {v : Value} {ks : Nat → GC} {zs : Nat → GSlots} {z : GSlots} {m : GC} (hL : Laid w) (hn : n ≤ 1000) (ho : W.ownsRow base 30 12 v (n + 1) ((z.cells m).toList ++ flatC zs ks n))
    (hb : Below w.heap.size w W) (hc : ∀ j, j < n → CertRd w (zs j) (ks j)) (hm : CertRd w z m) (hok : ∀ j, j < n → (ks j).Ok XIP) (hmk : m.Ok XIP) (hR : refL XIP (listOf ks n) = true) :
    Calls Tryz.prog 21 #[v] W fun e w' => e = .returned (.int .i64 1) ∧ Below W.heap.size W w' := by
  refine ins_calls (base := base) (zs := zs) (k := 0) hL (Nat.zero_le n) hn ?_ hb hc hm hok hmk true (ref_ahead XIP ks m hR)
  rw [Nat.zero_mul, List.take_zero, List.drop_zero, List.nil_append]
  exact ho
/-- What is made by one literal of one certificate. -/
theorem lit_own (w : World) (cs : List Value) (h : cs.length = 12) : (w.alloc (.cells cs.toArray 30)).ownsRow w.heap.size 30 12 (.slice (some ⟨w.heap.size, 0, none⟩) 1 1) 1 cs :=
  ⟨by omega, .inr ⟨w.heap.size, 1, cs.toArray, rfl, Nat.le_refl _, heap_alloc_new w _, by omega, by simp [maxLen], by simpa using h, by simp only [Nat.one_mul]; exact List.take_of_length_le (by omega)⟩⟩
/-- An append as one step of a region that draws, where its guard lets it in. -/
theorem step_append_w {P : Program} {w : World} {ops : Array Oper} {o : Oper} {a : Act} {K : Act → World → Prop} {Q : Exit → Act → World → Prop} {E : Prop} (hw : Region.wanted o (yielded ops a.tmps) = true) (s x : Operand) (t : TypeId)
    (ho : o.op = .call { callee := .builtin .append, args := #[s, x], argTypes := #[t, t] })
    (base : Nat) (e : TypeId) (i : TypeInfo) (z : Value) (size bytes : Nat) (ht : P.underlying t = some (.slice e)) (hi : P.info? e = some i) (hz : i.zero = some z)
    (hsize : i.size = size) (hby : i.bytes = bytes) (hzs : z.cells.size = size) (hsz : 0 < size)
    (v : Value) (n : Nat) (xs : List Value) (hs : a.eval s = v) (hown : w.ownsRow base e size v n xs)
    (B : Nat) (A : Option Addr) (m c : Nat) (news : List Value) (hx : a.eval x = .slice A m c) (hr : Reads w B size A m news) (h1 : ∀ u ∈ news, u.oneCell' = true)
    (h63 : n + m ≤ maxLen) (hbytes : (n + m) * bytes ≤ 140737488355328) (hbase : base ≤ w.heap.size)
    (h : ∀ v' w', w'.ownsRow base e size v' (n + m) (xs ++ news) → w.grownBy w' v.ownBlock → (v'.ownBlock = v.ownBlock ∨ v'.ownBlock = some w.heap.size) → K (a.put o.dst v') w') :
    if Region.wanted o (yielded ops a.tmps) = true then Oper.wp P o a w K Q else E := by
  rw [if_pos hw]
  exact wp_append_any w s x t ho base e i z size bytes ht hi hz hsize hby hzs hsz v n xs hs hown B A m c news hx hr h1 h63 hbytes hbase h
theorem size_alloc_le (w : World) (o : Obj) : w.heap.size ≤ (w.alloc o).heap.size := by rw [World.size_alloc]; omega
theorem lit_reads (x : World) (cs : List Value) (h : cs.length = 12) : Reads (x.alloc (.cells cs.toArray 30)) (x.heap.size + 1) 12 (some ⟨x.heap.size, 0, none⟩) 1 cs := by
  refine ⟨by omega, fun _ => ⟨_, rfl, Nat.lt_succ_self _, fun j u hu => ?_⟩⟩
  rw [add_none, Nat.zero_add]
  exact (Blk.new x 30 cs.toArray).at_ j (by simpa using hu)
/-- What an append to a row of the call's own leaves standing. -/
theorem app_kept {w W x x' : World} {g n : Nat} {t : TypeId} {cs : Array Value} {v : Value} {xs : List Value} (o : Obj) (hb : Below w.heap.size w x) (hg : Blk x g t cs) (ho : x.ownsRow W.heap.size 30 12 v n xs) (hr : (x.alloc o).grownBy x' v.ownBlock) (hW : w.heap.size ≤ W.heap.size) (hlt : g < W.heap.size) : Below w.heap.size w x' ∧ Blk x' g t cs := by
  have h1 := hb.alloc hb.size o
  exact ⟨h1.grown hr h1.size (fun q hq => Nat.le_trans hW (ho.lt q hq).1), (hg.alloc o).grown hr (fun hq => by have := (ho.lt g hq.symm).1; omega)⟩
theorem own_less {w : World} {base base' n size : Nat} {e : TypeId} {v : Value} {xs : List Value} (h : w.ownsRow base e size v n xs) (hb : base' ≤ base) : w.ownsRow base' e size v n xs := by
  obtain ⟨h1, h2⟩ := h
  refine ⟨h1, ?_⟩
  rcases h2 with h2 | ⟨g, cap, cur, e1, e2, e3⟩
  · exact .inl h2
  · exact .inr ⟨g, cap, cur, e1, Nat.le_trans hb e2, e3⟩
theorem blk_reads {x : World} {g : Nat} {cs : List Value} (hb : Blk x g 30 cs.toArray) (h : cs.length = 12) : Reads x x.heap.size 12 (some ⟨g, 0, none⟩) 1 cs := by
  refine ⟨by omega, fun _ => ⟨_, rfl, hb.lt, fun j u hu => ?_⟩⟩
  rw [add_none, Nat.zero_add]
  exact hb.at_ j (by simpa using hu)
theorem app_kept0 {w W x x' : World} {g n : Nat} {t : TypeId} {cs : Array Value} {v : Value} {xs : List Value} (hb : Below w.heap.size w x) (hg : Blk x g t cs) (ho : x.ownsRow W.heap.size 30 12 v n xs) (hr : x.grownBy x' v.ownBlock) (hW : w.heap.size ≤ W.heap.size) (hlt : g < W.heap.size) : Below w.heap.size w x' ∧ Blk x' g t cs :=
  ⟨hb.grown hr hb.size (fun q hq => Nat.le_trans hW (ho.lt q hq).1), hg.grown hr (fun hq => by have := (ho.lt g hq.symm).1; omega)⟩
theorem pre_kept {w x x' : World} {g : Nat} {t : TypeId} {cs : Array Value} (o : Obj) (hb : Below w.heap.size w x) (hg : Blk x g t cs) (hr : (x.alloc o).grownBy x' (some x.heap.size)) : Below w.heap.size w x' ∧ Blk x' g t cs := by
  have h1 := hb.alloc hb.size o
  exact ⟨h1.grown hr h1.size (fun q hq => by injection hq with hq; have := hb.size; omega), (hg.alloc o).grown hr (fun hq => by injection hq with hq; have := hg.lt; omega)⟩
end Go.Proofs.YtblabjfjhlablaaGreatDoor
