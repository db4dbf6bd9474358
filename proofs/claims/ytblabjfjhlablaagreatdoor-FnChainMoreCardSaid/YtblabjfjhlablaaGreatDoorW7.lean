/- The walks of search and query over names: a query tells whether the name meets one of the constraints. -/
import Derived.Test.YtblabjfjhlablaaGreatDoorW6
namespace Go.Proofs.YtblabjfjhlablaaGreatDoor
open Go.RowKit Go.Sort Nc Go.Maps

theorem putCells_same {α : Type} [Inhabited α] (enc : α → Value) (l : List α) (cs : Array Value) (h : RowHas enc l cs) : putCells enc 0 l.toArray cs = cs := by
  apply Array.ext_getElem?
  intro j
  unfold putCells
  rw [Array.getElem?_mapIdx]
  cases hj : cs[j]? with
  | none => rfl
  | some v =>
    simp only [Option.map_some, Nat.zero_le, Nat.zero_add, List.size_toArray, Nat.sub_zero, true_and]
    by_cases hl : j < l.length
    · rw [if_pos hl]
      have := h.2 j _ (List.getElem?_eq_getElem hl)
      rw [hj] at this
      rw [Option.some.inj this]
      congr 1
      rw [getElem!_pos l.toArray j (by simpa using hl)]
      simp
    · rw [if_neg hl]
theorem sw_below {α : Type} [Inhabited α] {enc : α → Value} {l : List α} {cs : Array Value} {w w' : World} {g : Nat} {t : TypeId} (hb : Blk w g t cs) (h : RowHas enc l cs) (hs : SW enc w g 0 l.toArray w') : Below w.heap.size w w' := by
  obtain ⟨n, os, rfl⟩ := hs
  have ho := sortWorld_only enc w g n l.toArray os
  have hg := sortWorld_blk enc w g n l.toArray os hb
  rw [putCells_same enc l cs h] at hg
  refine ⟨ho.os, ho.tape, ho.output, ho.size, fun k hk => ?_⟩
  by_cases e : k = g
  · subst e; exact hg.trans hb.symm
  · exact ho.block k hk e
theorem namCmpT (s : Nam) (blk off size : Nat) (w : World) : CmpLaysT Tryz.prog 102 #[] encN (.string s.val) (fun x => cmpN x s) blk off size w := by
  intro m os dk _ x
  refine (dnsCompare_calls x.val s.val _ (by have := x.property.2.1; omega) (by have := s.property.2.1; omega)).mono ?_
  rintro e w' ⟨rfl, rfl⟩
  exact ⟨rfl, two_alloc _ _⟩
theorem asc_mono {P : List Nam} (h : Asc cmpN P) (s : Nam) : ∀ a b, a ≤ b → b < P.toArray.size → cmpN P.toArray[b]! s < 0 → cmpN P.toArray[a]! s < 0 := by
  intro a b hab hb hlt
  rcases Nat.lt_or_eq_of_le hab with h1 | h1
  · rw [getElem!_pos P.toArray b hb] at hlt
    rw [getElem!_pos P.toArray a (by omega)]
    simp only [List.size_toArray] at hb
    exact namLaminar.mono _ _ _ (List.pairwise_iff_getElem.1 h a b (by omega) hb h1) hlt
  · subst h1; exact hlt
/-- What the binary search tells of the names P: how many are ahead of s, and whether the next one is s. -/
def binAt (P : List Nam) (s : Nam) : Nat := P.countP (fun x => decide (cmpN x s < 0))
def binHit (P : List Nam) (s : Nam) : Bool := decide (binAt P s < P.length) && decide (cmpN P[binAt P s]! s = 0)
theorem binSearch_calls (P : List Nam) (s : Nam) (g cap : Nat) (cur : Array Value) (w : World) (hg : Blk w g 9 cur) (hP : RowHas encN P cur) (hl : P.length ≤ 1000000) (ha : Asc cmpN P) :
    Calls Tryz.prog 242 #[.slice (some ⟨g, 0, none⟩) P.length cap, .string s.val, .func (.func 102) #[] #[]] w fun e w' => e = .returned (.tuple #[.int .i64 (binAt P s : Nat), .bool (binHit P s)]) ∧ Below w.heap.size w w' := by
  have h := Any.slices_BinarySearchFunc Tryz.laysBin242 encN (fun _ => rfl) (.string s.val) (fun x => cmpN x s) 102 #[] g 0 cap P.toArray w eg102 (namCmpT s g 0 _ w) (range_row hP hg) hg.lt (by simp; omega) (asc_mono ha s)
  rw [List.size_toArray] at h
  refine h.mono ?_
  rintro e w' ⟨rfl, hs⟩
  refine ⟨?_, sw_below hg hP hs⟩
  simp only [binHit, binAt, List.getElem!_toArray]
  rfl
theorem searched_bin (P : List Nam) (s : Nam) (h : P ≠ []) : searched cmpN subN P s = (binHit P s || subN P[binAt P s - 1]! s) := by
  unfold searched
  rw [if_neg (fun e => h (List.eq_nil_of_length_eq_zero e))]
  show (if binAt P s < P.length ∧ cmpN P[binAt P s]! s = 0 then true else if binAt P s = 0 then subN P[0]! s else subN P[binAt P s - 1]! s) = _
  by_cases hh : binAt P s < P.length ∧ cmpN P[binAt P s]! s = 0
  · rw [if_pos hh]
    have : binHit P s = true := by unfold binHit; rw [decide_eq_true hh.1, decide_eq_true hh.2]; rfl
    rw [this]; rfl
  · rw [if_neg hh]
    have : binHit P s = false := by
      unfold binHit
      by_cases h1 : binAt P s < P.length
      · rw [decide_eq_false (fun h2 => hh ⟨h1, h2⟩), Bool.and_false]
      · rw [decide_eq_false h1]; rfl
    rw [this, Bool.false_or]
    by_cases h0 : binAt P s = 0
    · rw [if_pos h0, h0]
    · rw [if_neg h0]
theorem binAt_le (P : List Nam) (s : Nam) : binAt P s ≤ P.length := List.countP_le_length
theorem binHit_lt {P : List Nam} {s : Nam} (h : binHit P s = true) : binAt P s < P.length := by
  unfold binHit at h
  rw [Bool.and_eq_true] at h
  exact of_decide_eq_true h.1
/-- A query's answer: some constraint, and whether one is met. -/
def Tells (b : Bool) (w : World) (e : Ending) (w' : World) : Prop := ∃ c : ByteArray, e = .returned (.tuple #[.string c, .bool b]) ∧ Below w.heap.size w w'
theorem dnsHasSuffix_below (a b : ByteArray) (w : World) (h0 : 0 < a.size) (ha : a.size ≤ 4611686018427387904) (hb : b.size ≤ 4611686018427387904) :
    Calls Tryz.prog 103 #[.string a, .string b] w fun e w' => e = .returned (.bool (sufB a b)) ∧ Below w.heap.size w w' :=
  (dnsHasSuffix_calls a b w h0 ha hb).mono fun _ _ ⟨he, n, hn⟩ => ⟨he, by rw [← hn]; exact below_drewN (Below.refl _ _) n⟩
set_option maxRecDepth 100000 in
set_option maxHeartbeats 1000000 in
theorem search_calls (P : List Nam) (s : Nam) (S g cap : Nat) (cur : Array Value) (w : World) (hS : Blk w S 137 #[.slice (some ⟨g, 0, none⟩) P.length cap]) (hg : Blk w g 9 cur) (hP : RowHas encN P cur) (h0 : P ≠ []) (hl : P.length ≤ 1000000) (ha : Asc cmpN P) :
    Calls Tryz.prog 241 #[.pointer (some ⟨S, 0, none⟩), .string s.val, .func (.func 102) #[] #[], .func (.func 103) #[] #[]] w (Tells (searched cmpN subN P s) w) := by
  have hE := searched_bin P s h0
  have hn : 0 < P.length := List.length_pos_iff.2 h0
  have hlen : ((P.length : Int) == 0) = false := ib_ne (by omega)
  have hle := binAt_le P s
  have hb := binSearch_calls P s g cap cur w hg hP hl ha
  have hlt := @binHit_lt P s
  generalize binAt P s = k at *
  generalize binHit P s = hit at *
  generalize searched cmpN subN P s = R at *
  have HB := Lib.hid hb
  clear hb
  have c0 := hS.at_ 0 rfl
  cases hit with
  | true =>
    have hk := hlt rfl
    simp only [Bool.true_or] at hE
    subst hE
    clear hlt
    go_enter Tryz.func241, Tryz.ntmps241
    go_wp2_with (fail)
    refine HB.out.mono ?_
    rintro e w1 ⟨rfl, hb1⟩
    have c1 := (hS.later hb1).at_ 0 rfl
    have c2 := (hg.later hb1).at_ k (hP.2 k _ (List.getElem?_eq_getElem hk))
    unfold encN at c2
    clear c0 HB
    go_wp2
    go_ret2
    exact ⟨_, rfl, hb1⟩
  | false =>
    have hj : k - 1 < P.length := by omega
    rw [Bool.false_or, getElem!_pos P (k - 1) hj] at hE
    have hx := P[k - 1].property
    have hsuf := fun W => dnsHasSuffix_below P[k - 1].val s.val W hx.1 (by omega) (by have := s.property.2.1; omega)
    rw [subN_eq, ← hE] at hsuf
    have HS := Lib.hid hsuf
    clear hsuf hE hlt
    by_cases hk0 : k = 0
    · subst hk0
      go_enter Tryz.func241, Tryz.ntmps241
      go_wp2_with (fail)
      refine HB.out.mono ?_
      rintro e w1 ⟨rfl, hb1⟩
      have c1 := (hS.later hb1).at_ 0 rfl
      have c2 := (hg.later hb1).at_ 0 (hP.2 0 _ (List.getElem?_eq_getElem hn))
      unfold encN at c2
      clear c0 HB
      go_wp2_with (fail)
      refine (HS.out _).mono ?_
      rintro e w2 ⟨rfl, hb2⟩
      have hb3 := hb1.trans (hb2.mono hb1.size)
      clear c1 c2 hb1 hb2 HS
      cases R with
      | true =>
        go_wp2
        go_ret2
        exact ⟨_, rfl, hb3⟩
      | false =>
        go_wp2
        go_ret2
        exact ⟨_, rfl, hb3⟩
    · obtain ⟨j, rfl⟩ : ∃ j, k = j + 1 := ⟨k - 1, by omega⟩
      have hne : (((j + 1 : Nat) : Int) == 0) = false := ib_ne (by omega)
      simp only [Nat.add_sub_cancel] at *
      go_enter Tryz.func241, Tryz.ntmps241
      go_wp2_with (fail)
      refine HB.out.mono ?_
      rintro e w1 ⟨rfl, hb1⟩
      have c1 := (hS.later hb1).at_ 0 rfl
      have c2 := (hg.later hb1).at_ j (hP.2 j _ (List.getElem?_eq_getElem hj))
      unfold encN at c2
      clear c0 HB
      go_wp2_with (fail)
      refine (HS.out _).mono ?_
      rintro e w2 ⟨rfl, hb2⟩
      have hb3 := hb1.trans (hb2.mono hb1.size)
      clear c1 c2 hb1 hb2 HS
      cases R with
      | true =>
        go_wp2
        go_ret2
        exact ⟨_, rfl, hb3⟩
      | false =>
        go_wp2
        go_ret2
        exact ⟨_, rfl, hb3⟩
/-- A text without a star ahead. -/
def NoStar (s : ByteArray) : Prop := ∀ h : 0 < s.size, s[0].toNat ≠ 42
theorem query_all (s : ByteArray) (D : Nat) (w : World) (hD : Blk w D 135 #[.bool true, .bool false, .pointer none, .map none]) :
    Calls Tryz.prog 240 #[.pointer (some ⟨D, 0, none⟩), .string s] w (Tells true w) := by
  have c0 := hD.at_ 0 rfl
  go_enter Tryz.func240, Tryz.ntmps240
  go_wp2
  go_ret2
  exact ⟨_, rfl, Below.refl _ _⟩
set_option maxRecDepth 100000 in
set_option maxHeartbeats 1000000 in
theorem query_some (P : List Nam) (s : Nam) (perm : Bool) (D S g cap : Nat) (m : Value) (cur : Array Value) (w : World) (hD : Blk w D 135 #[.bool false, .bool perm, .pointer (some ⟨S, 0, none⟩), m]) (hS : Blk w S 137 #[.slice (some ⟨g, 0, none⟩) P.length cap]) (hg : Blk w g 9 cur)
    (hP : RowHas encN P cur) (h0 : P ≠ []) (hl : P.length ≤ 1000000) (ha : Asc cmpN P) (hst : NoStar s.val) :
    Calls Tryz.prog 240 #[.pointer (some ⟨D, 0, none⟩), .string s.val] w (Tells (searched cmpN subN P s) w) := by
  have HB := Lib.hid (search_calls P s S g cap cur w hS hg hP h0 hl ha)
  generalize searched cmpN subN P s = R at *
  have c0 := hD.at_ 0 rfl
  have c2 := hD.at_ 2 rfl
  go_enter Tryz.func240, Tryz.ntmps240
  go_wp2_with (fail)
  refine HB.out.mono ?_
  rintro e w1 ⟨c, rfl, hb1⟩
  have d1 := (hD.later hb1).at_ 1 rfl
  have hp := s.property.1
  have hs : ((s.val[0].toNat : Int) == 42) = false := ib_ne (by have := hst hp; omega)
  clear c0 c2 HB
  cases R with
  | true =>
    go_wp2
    go_ret2
    exact ⟨_, rfl, hb1⟩
  | false =>
    cases perm with
    | true =>
      go_wp2
      go_ret2
      exact ⟨_, rfl, hb1⟩
    | false =>
      go_wp2
      go_ret2
      exact ⟨_, rfl, hb1⟩
theorem any_map_val (d : List Nam) (s : Nam) : meets (d.map (·.val)) s.val = d.any (subN · s) := by
  unfold meets
  rw [List.any_map]
  congr 1
  funext x
  have : (x.val.size == 0) = false := beq_eq_false_iff_ne.2 (by have := x.property.1; omega)
  simp only [Function.comp, this, Bool.false_or, subN_eq]
theorem asc_prune {l : List Nam} (h : Asc cmpN l) : Asc cmpN (prune subN l) := List.Pairwise.sublist (prune_sub l) h
/-- The query of what newDNSConstraints made: whether the name meets one of the constraints. -/
theorem dnsQuery_calls (l : List ByteArray) (perm : Bool) (v : Value) (s : Nam) (w : World) (h : IsDns w l perm v) (hne : l ≠ []) (hst : NoStar s.val) :
    ∃ D, v = .iface 131 (.pointer (some ⟨D, 0, none⟩)) ∧ D < w.heap.size ∧ Calls Tryz.prog 240 #[.pointer (some ⟨D, 0, none⟩), .string s.val] w (Tells (meets l s.val) w) := by
  rcases h with ⟨h, _⟩ | ⟨D, rfl, _, h⟩
  · exact absurd h hne
  · rcases h with ⟨⟨c, hc, hz⟩, hD⟩ | ⟨d, S, g, cap, cur, P, m, rfl, hD, hS, hg, hP, _, h0, hl, srt, hperm, hasc, rfl⟩
    · refine ⟨D, rfl, hD.lt, ?_⟩
      have : meets l s.val = true := List.any_eq_true.2 ⟨c, hc, by simp [hz]⟩
      rw [this]
      exact query_all s.val D w hD
    · refine ⟨D, rfl, hD.lt, ?_⟩
      rw [any_map_val, ← query_eq namLaminar s d srt hperm hasc]
      exact query_some _ s perm D S g cap m cur w hD hS hg hP h0 hl (asc_prune hasc) hst
end Go.Proofs.YtblabjfjhlablaaGreatDoor
