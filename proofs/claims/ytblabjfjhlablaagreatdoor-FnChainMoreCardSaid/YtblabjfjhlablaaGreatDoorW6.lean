/- The walk of newDNSConstraints: it comes to nothing, to 'all', or to the pruned list of the constraints. -/
import Derived.Test.YtblabjfjhlablaaGreatDoorW5
namespace Go.Proofs.YtblabjfjhlablaaGreatDoor
open Go.RowKit Go.Sort Nc Go.Maps

theorem ib_ne {a b : Int} (h : ¬ a = b) : (a == b) = false := beq_eq_false_iff_ne.2 h
theorem ib_eq {a b : Int} (h : a = b) : (a == b) = true := beq_iff_eq.2 h
/-- A slice value that is nil, or stands at the head of a block and reads as the values xs. -/
def SRow (w : World) (t : TypeId) (v : Value) (xs : List Value) : Prop :=
  (v = .slice none 0 0 ∧ xs = []) ∨ ∃ (g cap : Nat) (cur : Array Value), v = .slice (some ⟨g, 0, none⟩) xs.length cap ∧ Blk w g t cur ∧ xs.length ≤ cap ∧ cap ≤ maxLen ∧ xs.length ≤ cur.size ∧ ∀ (j : Nat) (u : Value), xs[j]? = some u → cur[j]? = some u
section
variable {w w' : World} {t : TypeId} {v : Value} {xs : List Value}
theorem SRow.of_own {base n : Nat} (h : w.ownsRow base t 1 v n xs) : SRow w t v xs := by
  obtain ⟨h1, h2⟩ := h
  rcases h2 with ⟨rfl, rfl⟩ | ⟨g, cap, cur, rfl, _, hh, hn, hm, hs, ht⟩
  · exact .inl ⟨rfl, List.eq_nil_of_length_eq_zero (by omega)⟩
  · have hx : xs.length = n := by omega
    refine .inr ⟨g, cap, cur, by rw [hx], hh, by omega, hm, by omega, fun j u hu => ?_⟩
    have hj : j < n * 1 := by have := (List.getElem?_eq_some_iff.1 hu).1; omega
    rw [← ht, List.getElem?_take, if_pos hj] at hu
    simpa using hu
theorem SRow.later (h : SRow w t v xs) (hb : Below w.heap.size w w') : SRow w' t v xs := by
  rcases h with h | ⟨g, cap, cur, h1, h2, h3⟩
  · exact .inl h
  · exact .inr ⟨g, cap, cur, h1, h2.later hb, h3⟩
theorem SRow.below {B : Nat} (h : SRow w t v xs) (hb : Below B w w') (hv : ∀ g, v.ownBlock = some g → g < B) : SRow w' t v xs := by
  rcases h with h | ⟨g, cap, cur, h1, h2, h3⟩
  · exact .inl h
  · exact .inr ⟨g, cap, cur, h1, h2.below hb (hv g (by rw [h1]; rfl)), h3⟩
theorem SRow.more (h : SRow w t v xs) (hne : xs ≠ []) : ∃ (g cap : Nat) (cur : Array Value), v = .slice (some ⟨g, 0, none⟩) xs.length cap ∧ Blk w g t cur ∧ xs.length ≤ cap ∧ cap ≤ maxLen ∧ xs.length ≤ cur.size ∧ ∀ (j : Nat) (u : Value), xs[j]? = some u → cur[j]? = some u := by
  rcases h with ⟨_, h⟩ | h
  · exact absurd h hne
  · exact h
end
theorem sortPrune_calls (d : List Nam) (S g cap : Nat) (cur : Array Value) (w : World) (hS : Blk w S 137 #[.slice (some ⟨g, 0, none⟩) d.length cap]) (hg : Blk w g 9 cur) (hc : RowHas encN d cur) (h0 : d ≠ []) (hl : d.length ≤ 1000000) (hcap : d.length ≤ cap) :
    Calls Tryz.prog 101 #[.pointer (some ⟨S, 0, none⟩), .func (.func 102) #[] #[], .func (.func 103) #[] #[]] w (Pruned encN cmpN subN 137 9 d S g cap w) := by
  match d, h0 with
  | [x], _ => exact sortPrune_one x S g cap cur w hS hg hc hcap
  | x :: y :: r, _ => exact sortPrune_more (x :: y :: r) S g cap cur w hS hg hc (by simp) hl hcap

/-- A name meets one of the constraints: the one of nothing, or by whole labels. -/
def meets (l : List ByteArray) (s : ByteArray) : Bool := l.any (fun c => c.size == 0 || sufB c s)
/-- What newDNSConstraints comes to. -/
def IsDns (w : World) (l : List ByteArray) (perm : Bool) (v : Value) : Prop :=
  (l = [] ∧ v = .nilIface) ∨ ∃ D, v = .iface 131 (.pointer (some ⟨D, 0, none⟩)) ∧ l ≠ [] ∧
    (((∃ c, c ∈ l ∧ c.size = 0) ∧ Blk w D 135 #[.bool true, .bool false, .pointer none, .map none]) ∨
     ∃ (d : List Nam) (S g cap : Nat) (cur : Array Value) (P : List Nam) (m : Value), l = d.map (·.val) ∧ Blk w D 135 #[.bool false, .bool perm, .pointer (some ⟨S, 0, none⟩), m] ∧ Blk w S 137 #[.slice (some ⟨g, 0, none⟩) P.length cap] ∧ Blk w g 9 cur ∧
       RowHas encN P cur ∧ P.length ≤ cap ∧ P ≠ [] ∧ P.length ≤ 1000000 ∧ (∃ srt : List Nam, srt.Perm d ∧ Asc cmpN srt ∧ P = prune subN srt))
theorem IsDns.later {w w' : World} {l : List ByteArray} {perm : Bool} {v : Value} (h : IsDns w l perm v) (hb : Below w.heap.size w w') : IsDns w' l perm v := by
  rcases h with h | ⟨D, h1, h2, h3⟩
  · exact .inl h
  · refine .inr ⟨D, h1, h2, ?_⟩
    rcases h3 with ⟨h3, h4⟩ | ⟨d, S, g, cap, cur, P, m, e1, b1, b2, b3, h4⟩
    · exact .inl ⟨h3, h4.later hb⟩
    · exact .inr ⟨d, S, g, cap, cur, P, m, e1, b1.later hb, b2.later hb, b3.later hb, h4⟩
def MakesDns (w : World) (l : List ByteArray) (perm : Bool) (e : Ending) (w' : World) : Prop := ∃ v, e = .returned v ∧ IsDns w' l perm v ∧ Below w.heap.size w w'
set_option maxHeartbeats 400000 in
theorem newDns_nil (perm : Bool) (c : Nat) (a : Option Addr) (w : World) : Calls Tryz.prog 73 #[.slice a 0 c, .bool perm] w (MakesDns w [] perm) := by
  go_enter Tryz.func73, Tryz.ntmps73
  go_wp2
  go_ret
  exact ⟨_, rfl, .inl ⟨rfl, rfl⟩, Below.refl _ _⟩
set_option maxRecDepth 100000 in
set_option maxHeartbeats 400000 in
theorem newDns_all (l : List ByteArray) (perm : Bool) (g cap : Nat) (cur : Array Value) (w : World) (hg : Blk w g 9 cur) (hn : 0 < l.length) (hl : l.length ≤ 1000000)
    (hc : ∀ (j : Nat) (s : ByteArray), l[j]? = some s → cur[j]? = some (.string s)) (h0 : ∃ c, c ∈ l ∧ c.size = 0) :
    Calls Tryz.prog 73 #[.slice (some ⟨g, 0, none⟩) l.length cap, .bool perm] w (MakesDns w l perm) := by
  have hlen : ((l.length : Int) == 0) = false := ib_ne (by omega)
  have hsome : ∃ k, ∃ h : k < l.length, l[k].size = 0 := by
    obtain ⟨c, hc, hs⟩ := h0
    obtain ⟨k, hk, rfl⟩ := List.getElem_of_mem hc
    exact ⟨k, hk, hs⟩
  have H0 := Lib.hid hsome
  clear hsome
  go_enter Tryz.func73, Tryz.ntmps73
  go_wp2
  go_loop [18] (fun i => ∃ k : Nat, i = .int .i64 k ∧ k ≤ l.length ∧ Hid (∀ j (h : j < l.length), j < k → l[j].size ≠ 0)) (fun i => l.length - (intOf i).toNat)
  case atStart => exact ⟨0, rfl, by omega, fun j _ h => absurd h (Nat.not_lt_zero _)⟩
  case round =>
    obtain ⟨k, rfl, hk, hno⟩ := hrel
    by_cases hlt : k < l.length
    · have c1 := hg.at_ k (hc k _ (List.getElem?_eq_getElem hlt))
      by_cases hz : l[k].size = 0
      · have hz' : ((l[k].size : Int) == 0) = true := ib_eq (by omega)
        generalize l[k] = s at *
        clear hz
        go_wp2
        go_ret
        refine ⟨_, rfl, .inr ⟨_, rfl, fun h => by rw [h] at hn; simp at hn, .inl ⟨h0, Blk.new _ _ _⟩⟩, (Below.refl _ _).alloc (Nat.le_refl _) _⟩
      · have hz' : ((l[k].size : Int) == 0) = false := ib_ne (by omega)
        have hno2 : Hid (∀ j (h : j < l.length), j < k + 1 → l[j].size ≠ 0) := fun j h hj => by
          by_cases e : j = k
          · subst e; exact hz
          · exact hno.out j h (by omega)
        generalize l[k] = s at *
        clear hz hno
        go_wp2
        go_round
        case rel => exact ⟨k + 1, by go_num, by omega, hno2⟩
        case measure => simp only [intOf]; omega
    · exfalso
      obtain ⟨j, hj, hz⟩ := H0.out
      exact hno.out j hj (by omega) hz
theorem row_of_cells {d : List Nam} {g cap : Nat} {cur : Array Value} {w : World} (_hg : Blk w g 9 cur) (hl : d.length ≤ cap) (hcs : cur.size = cap * 1) (ht : cur.toList.take (d.length * 1) = (d.map (·.val)).map Value.string) : RowHas encN d cur := by
  refine ⟨by omega, fun j x hx => ?_⟩
  have hj : j < d.length := (List.getElem?_eq_some_iff.1 hx).1
  have h : ((d.map (·.val)).map Value.string)[j]? = some (encN x) := by simp [hx, encN]
  rw [← ht, List.getElem?_take, if_pos (by omega)] at h
  simpa using h
theorem clone_names (d : List Nam) (g cap : Nat) (cur : Array Value) (w : World) (hg : Blk w g 9 cur) (h0 : d ≠ []) (hl : d.length ≤ 1000000) (hc : RowHas encN d cur) :
    Calls Tryz.prog 62 #[.slice (some ⟨g, 0, none⟩) d.length cap] w fun e w' => ∃ (g1 cap1 : Nat) (cur1 : Array Value), e = .returned (.slice (some ⟨g1, 0, none⟩) d.length cap1) ∧ w.heap.size ≤ g1 ∧ Blk w' g1 9 cur1 ∧ d.length ≤ cap1 ∧ RowHas encN d cur1 ∧ Below w.heap.size w w' := by
  have hn : 0 < d.length := List.length_pos_iff.2 h0
  have hcl := Tryz.slices_Clone_string g 0 d.length cap (d.map (·.val)) w (by simp) (by omega) (fun j hj => by
    have hj' : j < d.length := by simpa using hj
    rw [Nat.zero_add, hg.cell, hc.2 j _ (List.getElem?_eq_getElem hj')]
    simp [encN, hj'])
  rw [List.take_of_length_le (by simp)] at hcl
  refine hcl.mono ?_
  rintro e w1 ⟨v1, rfl, hown, _, hb1⟩
  rcases hown.2 with ⟨_, h⟩ | ⟨g1, cap1, cur1, hv, hb, hg1, hnc, _, hcs, ht⟩
  · omega
  · exact ⟨g1, cap1, cur1, by rw [hv], hb, hg1, hnc, row_of_cells hg1 hnc hcs ht, hb1⟩
set_option maxRecDepth 100000 in
set_option maxHeartbeats 1000000 in
theorem newDns_some (d : List Nam) (perm : Bool) (g cap : Nat) (cur : Array Value) (w : World) (hg : Blk w g 9 cur) (h0 : d ≠ []) (hl : d.length ≤ 1000000)
    (hc : RowHas encN d cur) (hL : Laid w) :
    Calls Tryz.prog 73 #[.slice (some ⟨g, 0, none⟩) d.length cap, .bool perm] w (MakesDns w (d.map (·.val)) perm) := by
  have hn : 0 < d.length := List.length_pos_iff.2 h0
  have hlen : ((d.length : Int) == 0) = false := ib_ne (by omega)
  go_enter Tryz.func73, Tryz.ntmps73
  go_wp2
  go_loop [18] (fun i => ∃ k : Nat, i = .int .i64 k ∧ k ≤ d.length) (fun i => d.length - (intOf i).toNat)
  case atStart => exact ⟨0, rfl, by omega⟩
  case round =>
    obtain ⟨k, rfl, hk⟩ := hrel
    by_cases hlt : k < d.length
    · have c1 := hg.at_ k (hc.2 k _ (List.getElem?_eq_getElem hlt))
      unfold encN at c1
      have hz := (d[k]).property.1
      have hz' : (((d[k]).val.size : Int) == 0) = false := ib_ne (by omega)
      generalize (d[k]).val = s at *
      clear hz
      go_wp2
      go_round
      case rel => exact ⟨k + 1, by go_num, by omega⟩
      case measure => simp only [intOf]; omega
    · obtain rfl : k = d.length := by omega
      go_wp2_with (fail)
      refine (clone_names d g cap cur w hg h0 hl hc).mono ?_
      rintro e w1 ⟨g1, cap1, cur1, rfl, hbase, hg1, hnc, hrow, hb1⟩
      clear hg hc
      go_wp2_with (fail)
      have hS1 := (Blk.new w1 137 #[Value.slice (some ⟨g1, 0, none⟩) d.length cap1]).alloc (.cells #[Value.bool false, Value.bool perm, Value.pointer (some ⟨w1.heap.size, 0, none⟩), Value.map none] 135)
      have hD1 := Blk.new (w1.alloc (.cells #[Value.slice (some ⟨g1, 0, none⟩) d.length cap1] 137)) 135 #[Value.bool false, Value.bool perm, Value.pointer (some ⟨w1.heap.size, 0, none⟩), Value.map none]
      have hG1 := (hg1.alloc (.cells #[Value.slice (some ⟨g1, 0, none⟩) d.length cap1] 137)).alloc (.cells #[Value.bool false, Value.bool perm, Value.pointer (some ⟨w1.heap.size, 0, none⟩), Value.map none] 135)
      have hB1 : Below w1.heap.size w1 ((w1.alloc (.cells #[Value.slice (some ⟨g1, 0, none⟩) d.length cap1] 137)).alloc (.cells #[Value.bool false, Value.bool perm, Value.pointer (some ⟨w1.heap.size, 0, none⟩), Value.map none] 135)) := ((Below.refl _ _).alloc (Nat.le_refl _) _).alloc (by simp) _
      rw [World.size_alloc] at hD1
      refine (sortPrune_calls d w1.heap.size g1 cap1 cur1 _ hS1 hG1 hrow h0 hl hnc).mono ?_
      rintro e w2 ⟨rfl, srt, cur2, hperm, hasc, hS2, hg2, hrow2, hnc2, hb2⟩
      have hgS := hg1.lt
      have hD2 := hb2.blk hD1 (by omega) (by omega)
      have hB2 : Below w.heap.size w w2 := (hb1.trans (hB1.mono hb1.size)).trans (hb2.below hb1.size hbase (by have := hb1.size; simp; omega))
      have hL2 := hL.keep hB2
      have hsz2 : w1.heap.size + 1 < w2.heap.size := by have := hb2.size; simp at this; omega
      have hbs1 := hb1.size
      have hDS : w1.heap.size ≠ w1.heap.size + 1 := by omega
      clear hS1 hD1 hG1 hB1 hb2 hL hb1 hg1 hrow
      generalize w1.heap.size = S at *
      clear w1
      have hpl := prune_length subN srt
      have hlen2 := hperm.length_eq
      have hpne : prune subN srt ≠ [] := by
        cases srt with
        | nil => simp at hlen2; omega
        | cons x xs => simp [prune]
      have hpl2 : (prune subN srt).length ≤ 1000000 := by omega
      have cD0 := hD2.at_ 0 rfl
      have cD2 := hD2.at_ 2 rfl
      have cS := hS2.at_ 0 rfl
      cases perm with
      | true =>
        go_wp2
        go_ret
        refine ⟨_, rfl, .inr ⟨_, rfl, fun h => h0 (List.map_eq_nil_iff.1 h), .inr ⟨d, S, g1, cap1, cur2, prune subN srt, _, rfl, hD2, hS2, hg2, hrow2, hnc2, hpne, hpl2, srt, hperm, hasc, rfl⟩⟩, hB2⟩
      | false =>
        have hmm := @run_makeMap Tryz.prog
        have hsS : S < w2.heap.size := by omega
        go_wp2
        generalize hP : prune subN srt = P at *
        have HP := Lib.hid hP
        clear hP hmm
        have hB3 : Below w2.heap.size w2 (w2.alloc (.map #[] 0)) := (Below.refl _ _).alloc (Nat.le_refl _) _
        go_loopw [53] (fun i wr => ∃ (k : Nat) (C : DataW Unit), i = .int .i64 k ∧ k ≤ P.length ∧ Below w2.heap.size w2 wr ∧ wr.ownsMap Tryz.prog 9 (plainElem Tryz.prog 9) w2.heap.size k C) (fun i _ => P.length - (intOf i).toNat)
        case atStart => exact ⟨0, _, rfl, Nat.zero_le _, hB3, World.ownsMap_made _ _ _ _⟩
        case round =>
          obtain ⟨k, C, rfl, hk2, hbr, hown⟩ := hrel
          by_cases hlt2 : k < P.length
          · have cx := (hg2.later hbr).at_ k (hrow2.2 k _ (List.getElem?_eq_getElem hlt2))
            unfold encN at cx
            have hp := (P[k]).property
            generalize (P[k]).val = s at *
            go_wp2_with (fail)
            refine (toLower_calls s wr (by omega) (hL2.keep hbr)).mono ?_
            rintro e w3 ⟨s1, hs1, rfl, hb3⟩
            go_wp2_with (fail)
            refine (trimFirst_calls s1 w3 (by omega)).mono ?_
            rintro e w4 ⟨⟨s2, hs2, rfl, _⟩, rfl⟩
            have hown3 : w3.ownsMap Tryz.prog 9 (plainElem Tryz.prog 9) w2.heap.size k C := hown.kept (row := none) ⟨hb3.os, hb3.tape, hb3.output, hb3.size, fun j hj _ => hb3.block j hj⟩ (by simp)
            have hbr3 : Below w2.heap.size w2 w3 := hbr.trans (hb3.mono hbr.size)
            have hkey : keyOf Tryz.prog 9 (.string s2) = some (.string s2.data.toList) := Go.WideMaps.keyOf_string_mk Tryz.underlying9 (by unfold maxLen; omega)
            have hval : plainElem (H := Unit) Tryz.prog 9 (.string s1) = some (.lit (.string s1.data.toList), []) := plainElem_string Tryz.underlying9 (by unfold maxLen; omega)
            clear hown hbr hb3 cx
            by_cases he : s2.toList.isEmpty = true
            · go_wp2
              go_roundw
              case rel => exact ⟨k + 1, C, by go_num, by omega, hbr3, hown3.mono (by omega)⟩
              case measure => simp only [intOf]; omega
            · have he2 : s2.toList.isEmpty = false := by simpa using he
              clear he
              go_wp2_with (first
                | (at_mapUpdate; refine wpList_mapUpdate_own _ rfl _ _ _ 133 rfl 9 9 (string_keyed Tryz.underlying9) Tryz.underlying133 _ w2.heap.size k C rfl hown3 (by unfold maxLen; omega) _ _ _ rfl rfl hkey _ [] hval ?_))
              intro w5 hown5 hgrow5
              have hbr5 : Below w2.heap.size w2 w5 := hbr3.grown hgrow5 hbr3.size (fun j hj => by cases hj; exact Nat.le_refl _)
              clear hown3 hgrow5 hkey hval hbr3
              go_wp2
              go_roundw
              case rel => exact ⟨k + 1, _, by go_num, by omega, hbr5, hown5⟩
              case measure => simp only [intOf]; omega
          · obtain rfl : k = P.length := by omega
            have hSr := hS2.later hbr
            have hDr := hD2.later hbr
            have hgr := hg2.later hbr
            have cf := hDr.frozen 3
            have cd := hDr.at_ 3 rfl
            have hBr : Below w.heap.size w wr := hB2.trans (hbr.mono hB2.size)
            go_wp2_with (first
              | (at_len; refine wpList_len_own _ rfl _ 133 rfl 9 9 Tryz.underlying133 _ w2.heap.size P.length C rfl hown ?_))
            all_goals go_ret
            · refine ⟨_, rfl, .inr ⟨_, rfl, fun h => h0 (List.map_eq_nil_iff.1 h), .inr ⟨d, S, g1, cap1, cur2, P, _, rfl, hDr.set_ 3 _, hSr.far hDS _, hgr.far (by simp; omega) _, hrow2, hnc2, hpne, hpl2, srt, hperm, hasc, HP.out.symm⟩⟩, Below.setCell hBr (by simp; omega) _⟩
            · refine ⟨_, rfl, .inr ⟨_, rfl, fun h => h0 (List.map_eq_nil_iff.1 h), .inr ⟨d, S, g1, cap1, cur2, P, _, rfl, hDr, hSr, hgr, hrow2, hnc2, hpne, hpl2, srt, hperm, hasc, HP.out.symm⟩⟩, hBr⟩
/-- Constraints of which the statements speak. -/
def PlainL (l : List ByteArray) : Prop := ∀ c ∈ l, c.size ≤ 300 ∧ NoZ c.data.toList
theorem names_of (l : List ByteArray) (h : PlainL l) (h0 : ¬ ∃ c, c ∈ l ∧ c.size = 0) : ∃ d : List Nam, l = d.map (·.val) := by
  refine ⟨l.attach.map (fun c => ⟨c.1, by
    rcases Nat.eq_zero_or_pos c.1.size with e | e
    · exact absurd ⟨c.1, c.2, e⟩ h0
    · exact e, (h c.1 c.2).1, (h c.1 c.2).2⟩), ?_⟩
  rw [List.map_map]
  exact (List.attach_map_subtype_val l).symm
theorem newDns_calls (l : List ByteArray) (perm : Bool) (v : Value) (w : World) (hv : SRow w 9 v (l.map Value.string)) (hl : l.length ≤ 1000000) (hok : PlainL l) (hL : Laid w) :
    Calls Tryz.prog 73 #[v, .bool perm] w (MakesDns w l perm) := by
  rcases hv with ⟨rfl, h⟩ | ⟨g, cap, cur, rfl, hg, hn, _, hs, hc⟩
  · obtain rfl := List.map_eq_nil_iff.1 h
    exact newDns_nil perm 0 none w
  · rw [List.length_map] at *
    by_cases hne : l = []
    · subst hne
      exact newDns_nil perm cap _ w
    · by_cases h0 : ∃ c, c ∈ l ∧ c.size = 0
      · exact newDns_all l perm g cap cur w hg (List.length_pos_iff.2 hne) hl (fun j s hj => hc j _ (by simp [hj])) h0
      · obtain ⟨d, rfl⟩ := names_of l hok h0
        rw [List.length_map] at *
        exact newDns_some d perm g cap cur w hg (fun e => hne (by rw [e]; rfl)) hl ⟨hs, fun j x hx => hc j _ (by simp [hx, encN])⟩ hL
end Go.Proofs.YtblabjfjhlablaaGreatDoor
