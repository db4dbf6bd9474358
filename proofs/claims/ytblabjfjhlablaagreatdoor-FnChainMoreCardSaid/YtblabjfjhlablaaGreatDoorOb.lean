/- The walks of slices.Clone and slices.Reverse of texts, and of back. -/
import Derived.Test.YtblabjfjhlablaaGreatDoorRd
import Derived.Test.YtblabjfjhlablaaGreatDoorLc
namespace Go.Proofs.YtblabjfjhlablaaGreatDoor
open Go.RowKit Go.Sort Nc
theorem nil22_eq (a : Option Addr) (l c : Nat) (w : World) : (binOp .eql 22 (.slice a l c) (.slice none 0 0)).run Tryz.prog w = .ok (.bool a.isNone) w := by
  have h := run_equal_slice_nil (P := Tryz.prog) w 22 9 a l c Tryz.underlying22
  show ((do pure (Value.bool (← Op.equal 22 (.slice a l c) (.slice none 0 0)))) : Sem Value).run Tryz.prog w = _
  simp only [Sem.run_bind, h, Result.andThen, Sem.run_pure]
def OwnNew (t : TypeId) (size n : Nat) (xs : List Value) (w : World) (e : Ending) (w' : World) : Prop := ∃ v, e = .returned v ∧ w'.ownsRow w.heap.size t size v n xs ∧ Below w.heap.size w w'
set_option maxRecDepth 100000 in
theorem clone22_calls (A : Option Addr) (l : List ByteArray) (c : Nat) (w : World) (h : Reads w w.heap.size 1 A l.length (l.map .string)) (hl : l.length ≤ 1000000) :
    Calls Tryz.prog 62 #[.slice A l.length c] w (OwnNew 9 1 l.length (l.map .string) w) := by
  obtain ⟨i0, hi0, hz0, hz1, hz2⟩ := info_parts str_info
  have hnil := nil22_eq
  cases A with
  | none =>
    have : l = [] := by
      rcases Nat.eq_zero_or_pos l.length with h0 | h0
      · exact List.eq_nil_of_length_eq_zero h0
      · obtain ⟨a, e, _⟩ := h.2 h0; cases e
    subst this
    clear h
    go_enter Tryz.func62, Tryz.ntmps62
    go_wp2
    go_ret
    exact ⟨_, rfl, nil_own _ _ _, Below.refl _ _⟩
  | some a =>
    have hw0 : Below w.heap.size w (w.alloc (.cells #[] 9)) := (Below.refl _ _).alloc (Nat.le_refl _) _
    have ho0 := empty_own w 9
    have hrd := h.alloc (Nat.le_refl _) (.cells #[] 9)
    generalize l.length = n at *
    clear h
    go_enter Tryz.func62, Tryz.ntmps62
    go_wp2_with (first
      | (at_builtin
         refine wpList_append_any _ rfl _ (.tmp 6) _ rfl w.heap.size 9 i0 _ 1 16 Tryz.underlying22 hi0 hz0 hz1 hz2 rfl (by omega) (.slice (some ⟨w.heap.size, 0, none⟩) 0 0) 0 [] rfl ho0 w.heap.size (some a) n c _ rfl hrd (ones_strings _) (le_max hl) (le_by hl) hw0.size ?_
         intro v1 w1 o1 g1 a1)
      | fail)
    have hb1 := hw0.grown g1 hw0.size (fun q hq => (ho0.lt q hq).1)
    have o2 : w1.ownsRow w.heap.size 9 1 v1 n (l.map .string) := by simpa using o1
    clear o1 g1 a1
    go_wp2
    go_ret
    exact ⟨_, rfl, o2, hb1⟩
/-- A row, turned round from both ends as far as i. -/
def TurnAt (w : World) (g N n : Nat) (X : Nat → ByteArray) (i : Nat) : Prop := ∃ cur, Blk w g 9 cur ∧ cur.size = N ∧ n ≤ N ∧ ∀ m, m < n → cur[m]? = some (.string (if m < i ∨ n - 1 - i < m then X (n - 1 - m) else X m))
theorem TurnAt.step {w : World} {g N n i j : Nat} {X : Nat → ByteArray} (h : TurnAt w g N n X i) (hij : i + j + 1 = n) (hlt : i < j) : TurnAt ((w.setCell ⟨g, i, none⟩ (.string (X j))).setCell ⟨g, j, none⟩ (.string (X i))) g N n X (i + 1) := by
  obtain ⟨cur, hb, hs, hN, hc⟩ := h
  refine ⟨_, (hb.set_ i (.string (X j))).set_ j (.string (X i)), by simpa using hs, hN, fun m hm => ?_⟩
  rw [Array.getElem?_setIfInBounds, Array.getElem?_setIfInBounds]
  by_cases e1 : j = m
  · subst e1
    rw [if_pos rfl, if_pos (by simp; omega), if_pos (by omega), show n - 1 - j = i by omega]
  · rw [if_neg e1]
    by_cases e2 : i = m
    · subst e2
      rw [if_pos rfl, if_pos (by omega), if_pos (by omega), show n - 1 - i = j by omega]
    · rw [if_neg e2, hc m hm]
      by_cases e3 : m < i ∨ n - 1 - i < m
      · rw [if_pos e3, if_pos (by omega)]
      · rw [if_neg e3, if_neg (by omega)]
theorem TurnAt.done {w : World} {g N n i j : Nat} {X : Nat → ByteArray} (h : TurnAt w g N n X i) (hij : i + j + 1 = n) (hlt : ¬ i < j) : TurnAt w g N n X n := by
  obtain ⟨cur, hb, hs, hN, hc⟩ := h
  refine ⟨cur, hb, hs, hN, fun m hm => ?_⟩
  rw [hc m hm, if_pos (show m < n ∨ _ from .inl hm)]
  by_cases e3 : m < i ∨ n - 1 - i < m
  · rw [if_pos e3]
  · rw [if_neg e3, show n - 1 - m = m by omega]
set_option maxRecDepth 100000 in
set_option maxHeartbeats 1000000 in
theorem reverse22_calls (g c N n : Nat) (X : Nat → ByteArray) (w : World) (h : TurnAt w g N n X 0) (hl : n ≤ 1000000) (h0 : n ≠ 0) :
    Calls Tryz.prog 63 #[.slice (some ⟨g, 0, none⟩) n c] w fun e w' => e = .returned (.tuple #[]) ∧ TurnAt w' g N n X n ∧ Only g w w' := by
  have H := Lib.hid h
  clear h
  have y1 : IntKind.i64.wrap ((n : Int) - 1) = ((n - 1 : Nat) : Int) := by rw [Go.IntWalk.i64_in _ (by omega)]; omega
  go_enter Tryz.func63, Tryz.ntmps63
  go_wp2
  go_loopw [2, 3] (fun a b wr => ∃ i j : Nat, a = .int .i64 i ∧ b = .int .i64 j ∧ i + j + 1 = n ∧ Hid (TurnAt wr g N n X i) ∧ Only g w wr) (fun a _ _ => n - (intOf a).toNat)
  case atStart => exact ⟨0, n - 1, rfl, rfl, by omega, H.out, Only.refl _ _⟩
  case round =>
    obtain ⟨i, j, rfl, rfl, hij, ht, ho⟩ := hrel
    by_cases hlt : i < j
    · have HST := Lib.hid (ht.out.step hij hlt)
      obtain ⟨cur, hb, hs, hN, hc⟩ := ht.out
      have ci := hb.at_ i (hc i (by omega))
      have cj := hb.at_ j (hc j (by omega))
      rw [if_neg (by omega)] at ci cj
      have fz1 := hb.frozen i
      have fz2 := hb.frozen j
      have y2 : IntKind.i64.wrap ((j : Int) - 1) = ((j - 1 : Nat) : Int) := by rw [Go.IntWalk.i64_in _ (by omega)]; omega
      have HB := Lib.hid (And.intro hb (And.intro hs hc))
      clear hb hs hc ht
      generalize X i = xi at *
      generalize X j = xj at *
      go_wp2
      go_region
      all_goals go_wp2
      all_goals go_roundw
      case rel => exact ⟨i + 1, j - 1, by go_num, rfl, by omega, HST.out, ((ho.setCell i _).setCell j _).drewN 1⟩
      case measure => simp only [intOf]; omega
    · have HD := Lib.hid (ht.out.done hij hlt)
      clear ht
      go_wp2
      go_end0
      exact ⟨rfl, HD.out, ho⟩
theorem reverse22_zero (v : Value) (w : World) (A : Option Addr) (c : Nat) (hv : v = .slice A 0 c) : Calls Tryz.prog 63 #[v] w fun e w' => e = .returned (.tuple #[]) ∧ w = w' := by
  subst hv
  have y1 : IntKind.i64.wrap ((0 : Int) - 1) = -1 := Go.IntWalk.i64_in _ (by omega)
  go_enter Tryz.func63, Tryz.ntmps63
  go_wp2
  go_loop [2, 3] (fun a b => a = .int .i64 0 ∧ b = .int .i64 (-1)) (fun _ _ => 0)
  case atStart => exact ⟨rfl, rfl⟩
  case round =>
    obtain ⟨rfl, rfl⟩ := hrel
    go_wp2
    go_end0
    exact ⟨rfl, rfl⟩
theorem turn_of_own {w : World} {base n : Nat} {v : Value} {l : List ByteArray} (h : w.ownsRow base 9 1 v n (l.map .string)) (h0 : l ≠ []) : ∃ g cap, v = .slice (some ⟨g, 0, none⟩) l.length cap ∧ base ≤ g ∧ l.length ≤ cap ∧ cap ≤ maxLen ∧ TurnAt w g cap l.length (fun m => l.getD m ByteArray.empty) 0 := by
  obtain ⟨h1, h2⟩ := h
  have hn : n = l.length := by simp at h1; omega
  subst hn
  rcases h2 with ⟨_, e⟩ | ⟨g, cap, cur, e, hb, hh, hc, hm, hs, ht⟩
  · exact absurd (List.eq_nil_of_length_eq_zero e) h0
  · refine ⟨g, cap, e, hb, hc, hm, cur, hh, by omega, hc, fun m hlt => ?_⟩
    rw [if_neg (by omega)]
    have : (cur.toList.take (l.length * 1))[m]? = some (.string (l.getD m ByteArray.empty)) := by rw [ht]; simp [hlt]
    rw [List.getElem?_take_of_lt (by omega)] at this
    simpa using this
theorem own_of_turn {w : World} {base g cap : Nat} {l : List ByteArray} (h : TurnAt w g cap l.length (fun m => l.getD m ByteArray.empty) l.length) (hb : base ≤ g) (hc : l.length ≤ cap) (hm : cap ≤ maxLen) : w.ownsRow base 9 1 (.slice (some ⟨g, 0, none⟩) l.length cap) l.length (l.reverse.map .string) := by
  obtain ⟨cur, h1, h2, h3, h4⟩ := h
  refine ⟨by simp, .inr ⟨g, cap, cur, rfl, hb, h1, hc, hm, by omega, ?_⟩⟩
  apply List.ext_getElem?
  intro m
  by_cases hlt : m < l.length
  · rw [List.getElem?_take_of_lt (by omega), Array.getElem?_toList, h4 m hlt, if_pos (.inl hlt)]
    rw [List.getElem?_map, List.getElem?_reverse hlt, List.getElem?_eq_getElem (show l.length - 1 - m < l.length by omega)]
    simp [show l.length - 1 - m < l.length by omega]
  · rw [List.getElem?_eq_none (by simp; omega), List.getElem?_eq_none (by simp; omega)]
def backL (l : List ByteArray) (tw : Bool) : List ByteArray := l.reverse ++ (if tw then l else [])
set_option maxRecDepth 100000 in
theorem back_calls (A : Option Addr) (l : List ByteArray) (c : Nat) (tw : Bool) (w : World) (h : Reads w w.heap.size 1 A l.length (l.map .string)) (hl : l.length ≤ 1000000) :
    Calls Tryz.prog 29 #[.slice A l.length c, .bool tw] w fun e w' => ∃ v, e = .returned v ∧ SRow w' 9 v ((backL l tw).map .string) ∧ Below w.heap.size w w' := by
  obtain ⟨i0, hi0, hz0, hz1, hz2⟩ := info_parts str_info
  have H1 := Lib.hid (clone22_calls A l c w h hl)
  have H := Lib.hid h
  clear h
  by_cases h0 : l = []
  · subst h0
    have hz : ([] : List ByteArray).length = 0 := rfl
    rw [hz] at H1 ⊢
    clear H
    cases tw
    · go_enter Tryz.func29, Tryz.ntmps29
      go_wp2_with (first
        | (go_at_call 62; (with_reducible refine H1.out.mono ?_); rintro e w1 ⟨v, rfl, o1, b1⟩; obtain ⟨A2, c2, hv⟩ := SRow.zero (SRow.of_own o1); subst hv)
        | (go_at_call 63; (with_reducible refine (reverse22_zero _ w1 A2 c2 rfl).mono ?_); rintro e w2 ⟨rfl, rfl⟩)
        | fail)
      go_ret
      exact ⟨_, rfl, SRow.of_own o1, b1⟩
    · go_enter Tryz.func29, Tryz.ntmps29
      go_wp2_with (first
        | (go_at_call 62; (with_reducible refine H1.out.mono ?_); rintro e w1 ⟨v, rfl, o1, b1⟩; obtain ⟨A2, c2, hv⟩ := SRow.zero (SRow.of_own o1); subst hv)
        | (go_at_call 63; (with_reducible refine (reverse22_zero _ w1 A2 c2 rfl).mono ?_); rintro e w2 ⟨rfl, rfl⟩)
        | (at_builtin
           refine wpList_append_any _ rfl _ (.tmp 12) _ rfl w.heap.size 9 i0 _ 1 16 Tryz.underlying22 hi0 hz0 hz1 hz2 rfl (by omega) _ 0 [] rfl o1 w.heap.size A 0 c _ rfl (⟨rfl, fun h => absurd h (by omega)⟩ : Reads w1 w.heap.size 1 A 0 []) (by simp) (by simp only [maxLen]; omega) (by omega) b1.size ?_
           intro v3 w3 o3 g3 a3)
        | fail)
      have hb3 := b1.grown g3 b1.size (fun q hq => (o1.lt q hq).1)
      go_ret
      exact ⟨_, rfl, SRow.of_own (n := 0) (by simpa [backL] using o3), hb3⟩
  have hpos : 0 < l.length := List.length_pos_iff.2 h0
  cases tw
  · go_enter Tryz.func29, Tryz.ntmps29
    go_wp2_with (first
      | (go_at_call 62; (with_reducible refine H1.out.mono ?_); rintro e w1 ⟨v, rfl, o1, b1⟩; obtain ⟨g, cap, rfl, hg, hc, hm, ht⟩ := turn_of_own o1 h0; have HT := Lib.hid (And.intro ht o1); clear ht o1)
      | (go_at_call 63; (with_reducible refine (reverse22_calls g cap cap l.length _ w1 HT.out.1 hl (by omega)).mono ?_); rintro e w2 ⟨rfl, t2, n2⟩; have o2 := own_of_turn t2 hg hc hm; have B2 := n2.below_new b1 hg)
      | fail)
    go_ret
    exact ⟨_, rfl, by have := SRow.of_own o2; simpa [backL] using this, B2⟩
  · go_enter Tryz.func29, Tryz.ntmps29
    go_wp2_with (first
      | (go_at_call 62; (with_reducible refine H1.out.mono ?_); rintro e w1 ⟨v, rfl, o1, b1⟩; obtain ⟨g, cap, rfl, hg, hc, hm, ht⟩ := turn_of_own o1 h0; have HT := Lib.hid (And.intro ht o1); clear ht o1)
      | (go_at_call 63; (with_reducible refine (reverse22_calls g cap cap l.length _ w1 HT.out.1 hl (by omega)).mono ?_); rintro e w2 ⟨rfl, t2, n2⟩; have o2 := own_of_turn t2 hg hc hm; have B2 := n2.below_new b1 hg; have hrd := H.out.below B2)
      | (at_builtin
         refine wpList_append_any _ rfl _ (.tmp 12) _ rfl w.heap.size 9 i0 _ 1 16 Tryz.underlying22 hi0 hz0 hz1 hz2 rfl (by omega) _ l.length _ rfl o2 w.heap.size A l.length c _ rfl hrd (ones_strings _) (by simp only [maxLen]; omega) (by omega) B2.size ?_
         intro v3 w3 o3 g3 a3)
      | fail)
    have hb3 := B2.grown g3 B2.size (fun q hq => (o2.lt q hq).1)
    go_ret
    exact ⟨_, rfl, by have := SRow.of_own o3; simpa [backL] using this, hb3⟩
end Go.Proofs.YtblabjfjhlablaaGreatDoor
/- The walks of slices.Clone and slices.Reverse of networks. -/
namespace Go.Proofs.YtblabjfjhlablaaGreatDoor
open Go.RowKit Go.Sort Nc
theorem nil25_eq (a : Option Addr) (l c : Nat) (w : World) : (binOp .eql 25 (.slice a l c) (.slice none 0 0)).run Tryz.prog w = .ok (.bool a.isNone) w := by
  have h := run_equal_slice_nil (P := Tryz.prog) w 25 72 a l c Tryz.underlying25
  show ((do pure (Value.bool (← Op.equal 25 (.slice a l c) (.slice none 0 0)))) : Sem Value).run Tryz.prog w = _
  simp only [Sem.run_bind, h, Result.andThen, Sem.run_pure]
/-- A row of pairs, turned round from both ends as far as i. -/
def TurnP (w : World) (g N n : Nat) (X Y : Nat → Value) (i : Nat) : Prop := ∃ cur, Blk w g 72 cur ∧ cur.size = N ∧ n * 2 ≤ N ∧ ∀ m, m < n → cur[m * 2]? = some (if m < i ∨ n - 1 - i < m then X (n - 1 - m) else X m) ∧ cur[m * 2 + 1]? = some (if m < i ∨ n - 1 - i < m then Y (n - 1 - m) else Y m)
theorem TurnP.step {w : World} {g N n i j : Nat} {X Y : Nat → Value} (h : TurnP w g N n X Y i) (hij : i + j + 1 = n) (hlt : i < j) :
    TurnP ((((w.setCell ⟨g, i * 2, none⟩ (X j)).setCell ⟨g, i * 2 + 1, none⟩ (Y j)).setCell ⟨g, j * 2, none⟩ (X i)).setCell ⟨g, j * 2 + 1, none⟩ (Y i)) g N n X Y (i + 1) := by
  obtain ⟨cur, hb, hs, hN, hc⟩ := h
  refine ⟨_, (((hb.set_ (i * 2) (X j)).set_ (i * 2 + 1) (Y j)).set_ (j * 2) (X i)).set_ (j * 2 + 1) (Y i), by simpa using hs, hN, fun m hm => ?_⟩
  simp only [Array.getElem?_setIfInBounds, Array.size_setIfInBounds]
  by_cases e1 : j = m
  · subst e1
    constructor
    · rw [if_neg (by omega), if_pos rfl, if_pos (by omega), if_pos (by omega), show n - 1 - j = i by omega]
    · rw [if_pos rfl, if_pos (by omega), if_pos (by omega), show n - 1 - j = i by omega]
  · by_cases e2 : i = m
    · subst e2
      constructor
      · rw [if_neg (by omega), if_neg (by omega), if_neg (by omega), if_pos rfl, if_pos (by omega), if_pos (by omega), show n - 1 - i = j by omega]
      · rw [if_neg (by omega), if_neg (by omega), if_pos rfl, if_pos (by omega), if_pos (by omega), show n - 1 - i = j by omega]
    · obtain ⟨q1, q2⟩ := hc m hm
      constructor
      · rw [if_neg (by omega), if_neg (by omega), if_neg (by omega), if_neg (by omega), q1]
        by_cases e3 : m < i ∨ n - 1 - i < m
        · rw [if_pos e3, if_pos (by omega)]
        · rw [if_neg e3, if_neg (by omega)]
      · rw [if_neg (by omega), if_neg (by omega), if_neg (by omega), if_neg (by omega), q2]
        by_cases e3 : m < i ∨ n - 1 - i < m
        · rw [if_pos e3, if_pos (by omega)]
        · rw [if_neg e3, if_neg (by omega)]
theorem TurnP.done {w : World} {g N n i j : Nat} {X Y : Nat → Value} (h : TurnP w g N n X Y i) (hij : i + j + 1 = n) (hlt : ¬ i < j) : TurnP w g N n X Y n := by
  obtain ⟨cur, hb, hs, hN, hc⟩ := h
  refine ⟨cur, hb, hs, hN, fun m hm => ?_⟩
  obtain ⟨q1, q2⟩ := hc m hm
  rw [q1, q2, if_pos (show m < n ∨ n - 1 - n < m from .inl hm), if_pos (show m < n ∨ n - 1 - n < m from .inl hm)]
  by_cases e3 : m < i ∨ n - 1 - i < m
  · rw [if_pos e3, if_pos e3]; exact ⟨rfl, rfl⟩
  · rw [if_neg e3, if_neg e3, show n - 1 - m = m by omega]; exact ⟨rfl, rfl⟩
set_option maxRecDepth 100000 in
set_option maxHeartbeats 1000000 in
theorem reverse25_calls (g c N n : Nat) (a b : Nat → Option Addr) (an bn ac bc : Nat → Nat) (w : World) (h : TurnP w g N n (fun k => .slice (a k) (an k) (ac k)) (fun k => .slice (b k) (bn k) (bc k)) 0) (hl : n ≤ 1000000) (h0 : n ≠ 0) :
    Calls Tryz.prog 61 #[.slice (some ⟨g, 0, none⟩) n c] w fun e w' => e = .returned (.tuple #[]) ∧ TurnP w' g N n (fun k => .slice (a k) (an k) (ac k)) (fun k => .slice (b k) (bn k) (bc k)) n ∧ Only g w w' := by
  have H := Lib.hid h
  clear h
  have y1 : IntKind.i64.wrap ((n : Int) - 1) = ((n - 1 : Nat) : Int) := by rw [Go.IntWalk.i64_in _ (by omega)]; omega
  go_enter Tryz.func61, Tryz.ntmps61
  go_wp2
  go_loopw [2, 3] (fun u v wr => ∃ i j : Nat, u = .int .i64 i ∧ v = .int .i64 j ∧ i + j + 1 = n ∧ Hid (TurnP wr g N n (fun k => .slice (a k) (an k) (ac k)) (fun k => .slice (b k) (bn k) (bc k)) i) ∧ Only g w wr) (fun u _ _ => n - (intOf u).toNat)
  case atStart => exact ⟨0, n - 1, rfl, rfl, by omega, H.out, Only.refl _ _⟩
  case round =>
    obtain ⟨i, j, rfl, rfl, hij, ht, ho⟩ := hrel
    by_cases hlt : i < j
    · have HST := Lib.hid (ht.out.step hij hlt)
      obtain ⟨cur, hb, hs, hN, hc⟩ := ht.out
      have ci := hb.at_ _ (hc i (by omega)).1
      have ci1 := hb.at_ _ (hc i (by omega)).2
      have cj := hb.at_ _ (hc j (by omega)).1
      have cj1 := hb.at_ _ (hc j (by omega)).2
      rw [if_neg (by omega)] at ci cj ci1 cj1
      have fz1 := hb.frozen (i * 2)
      have fz2 := hb.frozen (i * 2 + 1)
      have fz3 := hb.frozen (j * 2)
      have fz4 := hb.frozen (j * 2 + 1)
      have y2 : IntKind.i64.wrap ((j : Int) - 1) = ((j - 1 : Nat) : Int) := by rw [Go.IntWalk.i64_in _ (by omega)]; omega
      have HB := Lib.hid (And.intro hb (And.intro hs hc))
      clear hb hs hc ht
      go_wp2
      go_region
      all_goals go_wp2
      all_goals go_roundw
      case rel => exact ⟨i + 1, j - 1, by go_num, rfl, by omega, HST.out, ((((ho.setCell _ _).setCell _ _).setCell _ _).setCell _ _).drewN 1⟩
      case measure => simp only [intOf]; omega
    · have HD := Lib.hid (ht.out.done hij hlt)
      clear ht
      go_wp2
      go_end0
      exact ⟨rfl, HD.out, ho⟩
theorem reverse25_zero (v : Value) (w : World) (A : Option Addr) (c : Nat) (hv : v = .slice A 0 c) : Calls Tryz.prog 61 #[v] w fun e w' => e = .returned (.tuple #[]) ∧ w = w' := by
  subst hv
  have y1 : IntKind.i64.wrap ((0 : Int) - 1) = -1 := Go.IntWalk.i64_in _ (by omega)
  go_enter Tryz.func61, Tryz.ntmps61
  go_wp2
  go_loop [2, 3] (fun a b => a = .int .i64 0 ∧ b = .int .i64 (-1)) (fun _ _ => 0)
  case atStart => exact ⟨rfl, rfl⟩
  case round =>
    obtain ⟨rfl, rfl⟩ := hrel
    go_wp2
    go_end0
    exact ⟨rfl, rfl⟩
theorem net_info : (Tryz.prog.info? 72).map (fun i => (i.zero, i.size, i.bytes)) = some (some (.agg #[.slice none 0 0, .slice none 0 0]), 2, 48) := by kernel_rfl
/-- The cells of pairs, flat. -/
def flat2 (X Y : Nat → Value) (n : Nat) : List Value := (List.range n).flatMap fun k => [X k, Y k]
theorem flat2_len (X Y : Nat → Value) (n : Nat) : (flat2 X Y n).length = n * 2 := by
  induction n with
  | zero => rfl
  | succ n ih => unfold flat2 at *; rw [List.range_succ, List.flatMap_append, List.length_append, ih]; simp; omega
theorem flat2_get (X Y : Nat → Value) (n k : Nat) (h : k < n) : (flat2 X Y n)[k * 2]? = some (X k) ∧ (flat2 X Y n)[k * 2 + 1]? = some (Y k) := by
  induction n with
  | zero => omega
  | succ n ih =>
    have e : flat2 X Y (n + 1) = flat2 X Y n ++ [X n, Y n] := by unfold flat2; rw [List.range_succ, List.flatMap_append]; simp
    rw [e]
    have hl := flat2_len X Y n
    by_cases hk : k < n
    · obtain ⟨h1, h2⟩ := ih hk
      rw [List.getElem?_append_left (by omega), List.getElem?_append_left (by omega)]
      exact ⟨h1, h2⟩
    · obtain rfl : k = n := by omega
      rw [List.getElem?_append_right (by omega), List.getElem?_append_right (by omega), hl, show k * 2 - k * 2 = 0 by omega, show k * 2 + 1 - k * 2 = 1 by omega]
      exact ⟨rfl, rfl⟩
theorem nets_reads {w : World} {A : Option Addr} {n : Nat} {X Y : Nat → Value} (h : NetsAt w A n X Y) : Reads w w.heap.size 2 A n (flat2 X Y n) := by
  refine ⟨flat2_len X Y n, fun h0 => ?_⟩
  obtain ⟨g, off, e, hc⟩ := h h0
  refine ⟨_, e, ?_, fun j u hu => ?_⟩
  · exact World.block_lt_of_cell? w _ (hc 0 h0).1
  · have hj : j < n * 2 := by have := (List.getElem?_eq_some_iff.1 hu).1; rw [flat2_len] at this; exact this
    rw [add_none]
    obtain ⟨q1, q2⟩ := flat2_get X Y n (j / 2) (by omega)
    obtain ⟨c1, c2⟩ := hc (j / 2) (by omega)
    by_cases hp : j % 2 = 0
    · have e2 : j = j / 2 * 2 := by omega
      rw [e2] at hu ⊢
      rw [q1] at hu
      cases hu
      exact c1
    · have e2 : j = j / 2 * 2 + 1 := by omega
      rw [e2] at hu ⊢
      rw [q2] at hu
      cases hu
      exact c2
theorem flat2_ones (X Y : Nat → Value) (n : Nat) (hX : ∀ k, (X k).oneCell' = true) (hY : ∀ k, (Y k).oneCell' = true) : ∀ u ∈ flat2 X Y n, u.oneCell' = true := fun u hu => by
  unfold flat2 at hu
  obtain ⟨k, _, hk⟩ := List.mem_flatMap.1 hu
  simp only [List.mem_cons, List.not_mem_nil, or_false] at hk
  rcases hk with rfl | rfl
  · exact hX k
  · exact hY k
set_option maxRecDepth 100000 in
theorem clone25_calls (A : Option Addr) (n c : Nat) (X Y : Nat → Value) (w : World) (h : NetsAt w A n X Y) (hX : ∀ k, (X k).oneCell' = true) (hY : ∀ k, (Y k).oneCell' = true) (hl : n ≤ 1000000) :
    Calls Tryz.prog 60 #[.slice A n c] w (OwnNew 72 2 n (flat2 X Y n) w) := by
  obtain ⟨i0, hi0, hz0, hz1, hz2⟩ := info_parts net_info
  have hnil := nil25_eq
  cases A with
  | none =>
    have : n = 0 := by
      rcases Nat.eq_zero_or_pos n with h0 | h0
      · exact h0
      · obtain ⟨g, off, e, _⟩ := h h0; cases e
    subst this
    clear h
    go_enter Tryz.func60, Tryz.ntmps60
    go_wp2
    go_ret
    exact ⟨_, rfl, ⟨rfl, .inl ⟨rfl, rfl⟩⟩, Below.refl _ _⟩
  | some a =>
    have hw0 : Below w.heap.size w (w.alloc (.cells #[] 72)) := (Below.refl _ _).alloc (Nat.le_refl _) _
    have ho0 : (w.alloc (.cells #[] 72)).ownsRow w.heap.size 72 2 (.slice (some ⟨w.heap.size, 0, none⟩) 0 0) 0 [] := ⟨by simp, .inr ⟨w.heap.size, 0, #[], rfl, Nat.le_refl _, heap_alloc_new w _, by simp, by simp [maxLen], by simp, by simp⟩⟩
    have hrd := (nets_reads h).alloc (Nat.le_refl _) (.cells #[] 72)
    have h1 := flat2_ones X Y n hX hY
    generalize flat2 X Y n = xs at *
    clear h hX hY
    go_enter Tryz.func60, Tryz.ntmps60
    go_wp2_with (first
      | (at_builtin
         refine wpList_append_any _ rfl _ (.tmp 6) _ rfl w.heap.size 72 i0 _ 2 48 Tryz.underlying25 hi0 hz0 hz1 hz2 rfl (by omega) (.slice (some ⟨w.heap.size, 0, none⟩) 0 0) 0 [] rfl ho0 w.heap.size (some a) n c _ rfl hrd h1 (by simp only [maxLen]; omega) (by omega) hw0.size ?_
         intro v1 w1 o1 g1 a1)
      | fail)
    have hb1 := hw0.grown g1 hw0.size (fun q hq => (ho0.lt q hq).1)
    have o2 : w1.ownsRow w.heap.size 72 2 v1 n xs := by simpa using o1
    clear o1 g1 a1
    go_wp2
    go_ret
    exact ⟨_, rfl, o2, hb1⟩
end Go.Proofs.YtblabjfjhlablaaGreatDoor
/- The walk of turned. -/
namespace Go.Proofs.YtblabjfjhlablaaGreatDoor
open Go.RowKit Go.Sort Nc
theorem srow_reads {w : World} {v : Value} {l : List ByteArray} (h : SRow w 9 v (l.map .string)) : ∃ A c, v = .slice A l.length c ∧ Reads w w.heap.size 1 A l.length (l.map .string) := by
  rcases h with ⟨h, e⟩ | ⟨g, cap, cur, h, hb, _, _, _, hc⟩
  · have : l = [] := by simpa using e
    subst this
    exact ⟨none, 0, h, .none_⟩
  · refine ⟨_, cap, by simpa using h, by simp, fun _ => ⟨_, rfl, hb.lt, fun j u hu => ?_⟩⟩
    rw [add_none]
    simpa using hb.at_ j (hc j u hu)
theorem turned_reads {w w2 : World} {g N : Nat} {l : List NetV} {a b : Nat → Option Addr} {ac bc : Nat → Nat} (hby : ∀ k (h : k < l.length), Byt w (a k) l[k].1 ∧ Byt w (b k) l[k].2) (hb : Below w.heap.size w w2)
    (ht : TurnP w2 g N l.length (fun k => .slice (a k) (l.getD k ([], [])).1.length (ac k)) (fun k => .slice (b k) (l.getD k ([], [])).2.length (bc k)) l.length) : NetsRd w2 (some ⟨g, 0, none⟩) l.reverse := by
  obtain ⟨cur, h1, h2, h3, h4⟩ := ht
  have hg : ∀ k, k < l.length → l.reverse.getD k ([], []) = l.getD (l.length - 1 - k) ([], []) := fun k hk => by
    simp [List.getD_eq_getElem?_getD, List.getElem?_reverse hk]
  refine ⟨fun k => a (l.length - 1 - k), fun k => b (l.length - 1 - k), fun k => ac (l.length - 1 - k), fun k => bc (l.length - 1 - k), fun _ => ⟨g, 0, rfl, fun k hk => ?_⟩, fun k hk => ?_⟩
  · rw [List.length_reverse] at hk
    obtain ⟨q1, q2⟩ := h4 k hk
    rw [if_pos (.inl hk)] at q1 q2
    have c1 := h1.at_ _ q1
    have c2 := h1.at_ _ q2
    simp only [hg k hk, Nat.zero_add]
    exact ⟨c1, c2⟩
  · rw [List.length_reverse] at hk
    rw [List.getElem_reverse]
    obtain ⟨b1, b2⟩ := hby (l.length - 1 - k) (by omega)
    exact ⟨b1.later hb, b2.later hb⟩
theorem turnP_of_own {w : World} {base n : Nat} {v : Value} {X Y : Nat → Value} (h : w.ownsRow base 72 2 v n (flat2 X Y n)) (h0 : n ≠ 0) : ∃ g cap, v = .slice (some ⟨g, 0, none⟩) n cap ∧ base ≤ g ∧ TurnP w g (cap * 2) n X Y 0 := by
  obtain ⟨h1, h2⟩ := h
  rcases h2 with ⟨_, e⟩ | ⟨g, cap, cur, e, hb, hh, hc, hm, hs, ht⟩
  · exact absurd e h0
  · refine ⟨g, cap, e, hb, cur, hh, hs, by omega, fun m hlt => ?_⟩
    obtain ⟨q1, q2⟩ := flat2_get X Y n m hlt
    rw [← ht] at q1 q2
    rw [List.getElem?_take_of_lt (by omega)] at q1 q2
    rw [if_neg (by omega), if_neg (by omega)]
    exact ⟨by simpa using q1, by simpa using q2⟩
theorem own_zero {w : World} {base size : Nat} {e : TypeId} {v : Value} {xs : List Value} (h : w.ownsRow base e size v 0 xs) : ∃ A c, v = .slice A 0 c := by
  rcases h.2 with ⟨rfl, _⟩ | ⟨g, cap, cur, rfl, _⟩
  · exact ⟨none, 0, rfl⟩
  · exact ⟨_, cap, rfl⟩
theorem NetsRd.none_ (w : World) (A : Option Addr) : NetsRd w A [] := ⟨fun _ => none, fun _ => none, fun _ => 0, fun _ => 0, fun h => absurd h (by simp), fun k h => absurd h (by simp)⟩
/-- Networks in a row of the call's own, their bytes the caller's. -/
def NetsOwn (w0 W : World) (A : Option Addr) (l : List NetV) : Prop :=
  ∃ (a b : Nat → Option Addr) (ac bc : Nat → Nat), (0 < l.length → ∃ g cur, A = some ⟨g, 0, none⟩ ∧ Blk W g 72 cur ∧ ∀ k, k < l.length → cur[k * 2]? = some (.slice (a k) (l.getD k ([], [])).1.length (ac k)) ∧ cur[k * 2 + 1]? = some (.slice (b k) (l.getD k ([], [])).2.length (bc k))) ∧
    ∀ k (h : k < l.length), Byt w0 (a k) l[k].1 ∧ Byt w0 (b k) l[k].2
theorem NetsOwn.keeps {w0 W W' : World} {A : Option Addr} {l : List NetV} {t : TypeId} (h : NetsOwn w0 W A l) (hk : Keeps t W W') (ht : 72 ≠ t) : NetsOwn w0 W' A l := by
  obtain ⟨a, b, ac, bc, h1, h2⟩ := h
  refine ⟨a, b, ac, bc, fun h0 => ?_, h2⟩
  obtain ⟨g, cur, e, hb, hc⟩ := h1 h0
  exact ⟨g, cur, e, hk.blk hb ht, hc⟩
theorem NetsOwn.rd {w0 W : World} {A : Option Addr} {l : List NetV} (h : NetsOwn w0 W A l) (hb : Below w0.heap.size w0 W) : NetsRd W A l := by
  obtain ⟨a, b, ac, bc, h1, h2⟩ := h
  refine ⟨a, b, ac, bc, fun h0 => ?_, fun k hk => ⟨(h2 k hk).1.later hb, (h2 k hk).2.later hb⟩⟩
  obtain ⟨g, cur, e, hg, hc⟩ := h1 h0
  refine ⟨g, 0, e, fun k hk => ?_⟩
  have c1 := hg.at_ _ (hc k hk).1
  have c2 := hg.at_ _ (hc k hk).2
  simp only [Nat.zero_add]
  exact ⟨c1, c2⟩
/-- Constraints in rows of the call's own. -/
structure NamesOwn (w0 W : World) (qA : Nat → Option Addr) (qc : Nat → Nat) (q : Nat → List ByteArray) (nets : List NetV) : Prop where
  t : ∀ k, k < 3 → SRow W 9 (.slice (qA k) (q k).length (qc k)) ((q k).map .string)
  n : NetsOwn w0 W (qA 3) nets
theorem NamesOwn.keeps {w0 W W' : World} {qA : Nat → Option Addr} {qc : Nat → Nat} {q : Nat → List ByteArray} {nets : List NetV} {t : TypeId} (h : NamesOwn w0 W qA qc q nets) (hk : Keeps t W W') (h1 : 9 ≠ t) (h2 : 72 ≠ t) : NamesOwn w0 W' qA qc q nets :=
  ⟨fun k hk' => hk.srow (h.t k hk') h1, h.n.keeps hk h2⟩
theorem srow_at {W : World} {A : Option Addr} {c : Nat} {l : List ByteArray} (h : SRow W 9 (.slice A l.length c) (l.map .string)) : Reads W W.heap.size 1 A l.length (l.map .string) := by
  obtain ⟨A', c', e, r⟩ := srow_reads h
  injection e with e1
  subst e1
  exact r
theorem NamesOwn.rd {w0 W : World} {qA : Nat → Option Addr} {qc : Nat → Nat} {q : Nat → List ByteArray} {nets : List NetV} (h : NamesOwn w0 W qA qc q nets) (hb : Below w0.heap.size w0 W) : NamesRd W qA q nets :=
  ⟨fun k hk => srow_at (h.t k hk), h.n.rd hb⟩
theorem turned_own {w W : World} {g N : Nat} {l : List NetV} {a b : Nat → Option Addr} {ac bc : Nat → Nat} (hby : ∀ k (h : k < l.length), Byt w (a k) l[k].1 ∧ Byt w (b k) l[k].2)
    (ht : TurnP W g N l.length (fun k => .slice (a k) (l.getD k ([], [])).1.length (ac k)) (fun k => .slice (b k) (l.getD k ([], [])).2.length (bc k)) l.length) : NetsOwn w W (some ⟨g, 0, none⟩) l.reverse := by
  obtain ⟨cur, h1, h2, h3, h4⟩ := ht
  have hg : ∀ k, k < l.length → l.reverse.getD k ([], []) = l.getD (l.length - 1 - k) ([], []) := fun k hk => by
    simp [List.getD_eq_getElem?_getD, List.getElem?_reverse hk]
  refine ⟨fun k => a (l.length - 1 - k), fun k => b (l.length - 1 - k), fun k => ac (l.length - 1 - k), fun k => bc (l.length - 1 - k), fun _ => ⟨g, cur, rfl, h1, fun k hk => ?_⟩, fun k hk => ?_⟩
  · rw [List.length_reverse] at hk
    obtain ⟨q1, q2⟩ := h4 k hk
    rw [if_pos (.inl hk)] at q1 q2
    simp only [hg k hk]
    exact ⟨q1, q2⟩
  · rw [List.length_reverse] at hk
    rw [List.getElem_reverse]
    exact hby (l.length - 1 - k) (by omega)
theorem NetsOwn.none_ (w W : World) (A : Option Addr) : NetsOwn w W A [] := ⟨fun _ => none, fun _ => none, fun _ => 0, fun _ => 0, fun h => absurd h (by simp), fun k h => absurd h (by simp)⟩
theorem TurnP.blk {w w' : World} {g N n i : Nat} {X Y : Nat → Value} (h : TurnP w g N n X Y i) (hk : ∀ cur, Blk w g 72 cur → Blk w' g 72 cur) : TurnP w' g N n X Y i := by
  obtain ⟨cur, h1, h2⟩ := h
  exact ⟨cur, hk cur h1, h2⟩
/-- What stands when four cells of a block of type 27 are written. -/
theorem four_set {w x W : World} {B : Nat} {r : Array Value} {v0 v1 v2 v3 : Value} (hb : Below w.heap.size w x) (hB : w.heap.size ≤ B) (h : Blk x B 27 r) (hr : r.size = 4) (e : W = (((x.setCell ⟨B, 0, none⟩ v0).setCell ⟨B, 1, none⟩ v1).setCell ⟨B, 2, none⟩ v2).setCell ⟨B, 3, none⟩ v3) :
    Below w.heap.size w W ∧ Blk W B 27 #[v0, v1, v2, v3] ∧ Keeps 27 x W := by
  subst e
  have k0 := h.set_ 0 v0
  have k1 := k0.set_ 1 v1
  have k2 := k1.set_ 2 v2
  have k3 := k2.set_ 3 v3
  refine ⟨(((hb.setCell hB v0).setCell hB v1).setCell hB v2).setCell hB v3, ?_, (((Keeps.setCell h 0 v0).trans (Keeps.setCell k0 1 v1)).trans (Keeps.setCell k1 2 v2)).trans (Keeps.setCell k2 3 v3)⟩
  match r, hr with
  | ⟨[a, b, c, d]⟩, _ => exact k3
set_option maxRecDepth 100000 in
set_option maxHeartbeats 1000000 in
theorem turned_calls (pA : Nat → Option Addr) (pc : Nat → Nat) (p : Nat → List ByteArray) (nets : List NetV) (tw : Bool) (w0 w : World) (h0 : NamesRd w0 pA p nets) (hw0 : Below w0.heap.size w0 w) (hp : ∀ k, k < 3 → (p k).length ≤ 1000) (hn : nets.length ≤ 1000) :
    Calls Tryz.prog 28 #[nval pA (len4 p nets.length) pc, .bool tw] w fun e w' => ∃ (qA : Nat → Option Addr) (qc : Nat → Nat), e = .returned (nval qA (len4 (fun k => backL (p k) tw) nets.reverse.length) qc) ∧ NamesOwn w0 w' qA qc (fun k => backL (p k) tw) nets.reverse ∧ Below w.heap.size w w' := by
  have hC : Blk (w.alloc (.cells #[.slice (pA 0) (p 0).length (pc 0), .slice (pA 1) (p 1).length (pc 1), .slice (pA 2) (p 2).length (pc 2), .slice (pA 3) nets.length (pc 3)] 27)) w.heap.size 27 #[.slice (pA 0) (p 0).length (pc 0), .slice (pA 1) (p 1).length (pc 1), .slice (pA 2) (p 2).length (pc 2), .slice (pA 3) nets.length (pc 3)] := Blk.new _ _ _
  have hb0 : Below w.heap.size w (w.alloc (.cells #[.slice (pA 0) (p 0).length (pc 0), .slice (pA 1) (p 1).length (pc 1), .slice (pA 2) (p 2).length (pc 2), .slice (pA 3) nets.length (pc 3)] 27)) := (Below.refl _ _).alloc (Nat.le_refl _) _
  have H := Lib.hid (h0.later hw0)
  have HP := Lib.hid hp
  obtain ⟨a, b, ac, bc, hat0, hby⟩ := h0.n
  have hat : NetsAt w (pA 3) nets.length (fun k => .slice (a k) (nets.getD k ([], [])).1.length (ac k)) (fun k => .slice (b k) (nets.getD k ([], [])).2.length (bc k)) := fun hn0 => by
    obtain ⟨g, off, e, hc⟩ := hat0 hn0
    exact ⟨g, off, e, fun k hk => ⟨cell_keep hw0 (hc k hk).1, cell_keep hw0 (hc k hk).2⟩⟩
  clear h0 hp hat0 hw0
  unfold nval len4
  simp only
  have hz0 : (w.alloc (.cells #[.slice (pA 0) (p 0).length (pc 0), .slice (pA 1) (p 1).length (pc 1), .slice (pA 2) (p 2).length (pc 2), .slice (pA 3) nets.length (pc 3)] 27)).heap.size = w.heap.size + 1 := World.size_alloc _ _
  have hR := Blk.new (w.alloc (.cells #[.slice (pA 0) (p 0).length (pc 0), .slice (pA 1) (p 1).length (pc 1), .slice (pA 2) (p 2).length (pc 2), .slice (pA 3) nets.length (pc 3)] 27)) 27 #[.slice none 0 0, .slice none 0 0, .slice none 0 0, .slice none 0 0]
  rw [hz0] at hR
  have hC1 := hC.alloc (.cells #[.slice none 0 0, .slice none 0 0, .slice none 0 0, .slice none 0 0] 27)
  have hb1 := hb0.alloc hb0.size (.cells #[.slice none 0 0, .slice none 0 0, .slice none 0 0, .slice none 0 0] 27)
  have KC := Lib.hid (fun (W : World) (hW : Below w.heap.size w W) => clone25_calls (pA 3) nets.length (pc 3) (fun k => .slice (a k) (nets.getD k ([], [])).1.length (ac k)) (fun k => .slice (b k) (nets.getD k ([], [])).2.length (bc k)) W (fun h0 => by
    obtain ⟨g, off, e, hc⟩ := hat h0
    exact ⟨g, off, e, fun k hk => ⟨cell_keep hW (hc k hk).1, cell_keep hW (hc k hk).2⟩⟩) (fun _ => rfl) (fun _ => rfl) (by omega))
  have KB := Lib.hid (fun (k : Nat) (hk : k < 3) (W : World) (hW : Below w.heap.size w W) => back_calls (pA k) (p k) (pc k) tw W ((H.out.later hW).t k hk) (by have := HP.out k hk; omega))
  have HBY := Lib.hid hby
  have HB1 := Lib.hid (And.intro hb1 (And.intro hC1 hR))
  have K0 := Lib.hid (KB.out 0 (by omega))
  have K1 := Lib.hid (KB.out 1 (by omega))
  have K2 := Lib.hid (KB.out 2 (by omega))
  clear hat hby hz0 hR hC1 hb1 hC hb0 KB
  by_cases hne : nets = []
  · subst hne
    have hz : ([] : List NetV).length = 0 := rfl
    rw [hz] at KC HB1 ⊢
    go_enter Tryz.func28, Tryz.ntmps28
    go_wp2_with (first
      | (go_at_call 60; (with_reducible refine (KC.out _ HB1.out.1).mono ?_); rintro e w2 ⟨v2, rfl, o2, b2⟩; obtain ⟨A3, c3, rfl⟩ := own_zero o2; have hsz1 := HB1.out.1.size; have HX := Lib.hid (And.intro (HB1.out.1.trans (b2.mono HB1.out.1.size)) (And.intro (HB1.out.2.1.later b2) (HB1.out.2.2.later b2))); clear o2)
      | (go_at_call 61; (with_reducible refine (reverse25_zero _ w2 A3 c3 rfl).mono ?_); rintro e w3 ⟨rfl, rfl⟩)
      | fail)
    have hx := HX.out
    have hfar : ∀ k : Nat, w.heap.size ≠ (⟨w.heap.size + 1, k, none⟩ : Addr).block := fun k => by simp
    go_region_held3 (fun W => W.cell? ⟨w.heap.size, 0, none⟩ = some (.slice (pA 0) (p 0).length (pc 0)) ∧ W.cell? ⟨w.heap.size, 1, none⟩ = some (.slice (pA 1) (p 1).length (pc 1)) ∧ W.cell? ⟨w.heap.size, 2, none⟩ = some (.slice (pA 2) (p 2).length (pc 2)))
      (first
        | (with_reducible exact ⟨hx.2.1.drew.at_ 0 rfl, hx.2.1.drew.at_ 1 rfl, hx.2.1.drew.at_ 2 rfl⟩)
        | (with_reducible exact ⟨J0.out.2.1.at_ 0 rfl, J0.out.2.1.at_ 1 rfl, J0.out.2.1.at_ 2 rfl⟩)
        | (with_reducible exact ⟨J1.out.2.1.at_ 0 rfl, J1.out.2.1.at_ 1 rfl, J1.out.2.1.at_ 2 rfl⟩)
        | (with_reducible exact ⟨J2.out.2.1.at_ 0 rfl, J2.out.2.1.at_ 1 rfl, J2.out.2.1.at_ 2 rfl⟩)
        | exact ⟨((((J2.out.2.1.far (hfar 0) _).far (hfar 1) _).far (hfar 2) _).far (hfar 3) _).at_ 0 rfl, ((((J2.out.2.1.far (hfar 0) _).far (hfar 1) _).far (hfar 2) _).far (hfar 3) _).at_ 1 rfl, ((((J2.out.2.1.far (hfar 0) _).far (hfar 1) _).far (hfar 2) _).far (hfar 3) _).at_ 2 rfl⟩)
      (first
        | (go_at_call 29; (with_reducible refine (K0.out _ hx.1.drew).mono ?_); rintro e x0 ⟨v0, rfl, s0, q0⟩; obtain ⟨A0, c0, rfl, r0⟩ := srow_reads s0; have J0 := Lib.hid (And.intro (hx.1.drew.trans (q0.mono hx.1.drew.size)) (And.intro (hx.2.1.drew.later q0) (hx.2.2.drew.later q0))); have HS0 := Lib.hid s0; clear s0 r0)
        | (go_at_call 29; (with_reducible refine (K1.out _ J0.out.1).mono ?_); rintro e x1 ⟨v1, rfl, s1, q1⟩; obtain ⟨A1, c1, rfl, r1⟩ := srow_reads s1; have J1 := Lib.hid (And.intro (J0.out.1.trans (q1.mono J0.out.1.size)) (And.intro (J0.out.2.1.later q1) (J0.out.2.2.later q1))); have HS1 := Lib.hid s1; clear s1 r1)
        | (go_at_call 29; (with_reducible refine (K2.out _ J1.out.1).mono ?_); rintro e x2 ⟨v2, rfl, s2, q2⟩; obtain ⟨A2, c2, rfl, r2⟩ := srow_reads s2; have J2 := Lib.hid (And.intro (J1.out.1.trans (q2.mono J1.out.1.size)) (And.intro (J1.out.2.1.later q2) (J1.out.2.2.later q2))); have HS2 := Lib.hid s2; clear s2 r2; have f0 := J2.out.2.2.frozen 0; have f1 := J2.out.2.2.frozen 1; have f2 := J2.out.2.2.frozen 2; have f3 := J2.out.2.2.frozen 3; have z0 := J2.out.2.2.at_ 0 rfl; have z1 := J2.out.2.2.at_ 1 rfl; have z2 := J2.out.2.2.at_ 2 rfl; have z3 := J2.out.2.2.at_ 3 rfl))
    obtain ⟨B3, R3, P3⟩ := four_set (v0 := .slice A0 (backL (p 0) tw).length c0) (v1 := .slice A1 (backL (p 1) tw).length c1) (v2 := .slice A2 (backL (p 2) tw).length c2) (v3 := .slice A3 0 c3) J2.out.1 (Nat.le_succ _) J2.out.2.2 rfl rfl
    have HTX := Lib.hid (And.intro (P3.srow ((HS0.out.later q1).later q2) (by decide)) (And.intro (P3.srow (HS1.out.later q2) (by decide)) (P3.srow HS2.out (by decide))))
    have rz0 := R3.at_ 0 rfl
    have rz1 := R3.at_ 1 rfl
    have rz2 := R3.at_ 2 rfl
    have rz3 := R3.at_ 3 rfl
    have HB3 := Lib.hid (And.intro B3 R3)
    clear R3 P3 B3
    go_wp2
    refine bodyPost_ret (v := .agg #[.slice A0 (backL (p 0) tw).length c0, .slice A1 (backL (p 1) tw).length c1, .slice A2 (backL (p 2) tw).length c2, .slice A3 0 c3])
      (results_cell_row (fn := Tryz.f28) rfl _ _ (w.heap.size + 1) 27 #[.slice A0 (backL (p 0) tw).length c0, .slice A1 (backL (p 1) tw).length c1, .slice A2 (backL (p 2) tw).length c2, .slice A3 0 c3] (0, 0) _ rfl HB3.out.2 Tryz.underlying27 rfl (by kernel_rfl)) rfl
      ⟨pick4 A0 A1 A2 A3, pick4 c0 c1 c2 c3, rfl, ⟨fun k hk => ?_, NetsOwn.none_ _ _ _⟩, HB3.out.1⟩
    match k, hk with
    | 0, _ => exact HTX.out.1
    | 1, _ => exact HTX.out.2.1
    | 2, _ => exact HTX.out.2.2
  have hnl : nets.length ≠ 0 := fun e => hne (List.eq_nil_of_length_eq_zero e)
  go_enter Tryz.func28, Tryz.ntmps28
  go_wp2_with (first
    | (go_at_call 60; (with_reducible refine (KC.out _ HB1.out.1).mono ?_); rintro e w2 ⟨v2, rfl, o2, b2⟩; obtain ⟨g, cap, rfl, hg, ht⟩ := turnP_of_own o2 hnl; have HT := Lib.hid ht; clear ht o2)
    | (go_at_call 61; (with_reducible refine (reverse25_calls g cap (cap * 2) nets.length a b _ _ ac bc w2 HT.out (by omega) hnl).mono ?_); rintro e w3 ⟨rfl, t3, n3⟩; have b3 := n3.below_new b2 hg; have hsz1 := HB1.out.1.size; have HX := Lib.hid (And.intro (HB1.out.1.trans (b3.mono HB1.out.1.size)) (And.intro (HB1.out.2.1.later b3) (HB1.out.2.2.later b3))); have HT3 := Lib.hid t3; clear t3 n3 b3)
    | fail)
  have hx := HX.out
  have hfar : ∀ k : Nat, w.heap.size ≠ (⟨w.heap.size + 1, k, none⟩ : Addr).block := fun k => by simp
  go_region_held3 (fun W => W.cell? ⟨w.heap.size, 0, none⟩ = some (.slice (pA 0) (p 0).length (pc 0)) ∧ W.cell? ⟨w.heap.size, 1, none⟩ = some (.slice (pA 1) (p 1).length (pc 1)) ∧ W.cell? ⟨w.heap.size, 2, none⟩ = some (.slice (pA 2) (p 2).length (pc 2)))
    (first
      | (with_reducible exact ⟨hx.2.1.drew.at_ 0 rfl, hx.2.1.drew.at_ 1 rfl, hx.2.1.drew.at_ 2 rfl⟩)
      | (with_reducible exact ⟨J0.out.2.1.at_ 0 rfl, J0.out.2.1.at_ 1 rfl, J0.out.2.1.at_ 2 rfl⟩)
      | (with_reducible exact ⟨J1.out.2.1.at_ 0 rfl, J1.out.2.1.at_ 1 rfl, J1.out.2.1.at_ 2 rfl⟩)
      | (with_reducible exact ⟨J2.out.2.1.at_ 0 rfl, J2.out.2.1.at_ 1 rfl, J2.out.2.1.at_ 2 rfl⟩)
      | exact ⟨((((J2.out.2.1.far (hfar 0) _).far (hfar 1) _).far (hfar 2) _).far (hfar 3) _).at_ 0 rfl, ((((J2.out.2.1.far (hfar 0) _).far (hfar 1) _).far (hfar 2) _).far (hfar 3) _).at_ 1 rfl, ((((J2.out.2.1.far (hfar 0) _).far (hfar 1) _).far (hfar 2) _).far (hfar 3) _).at_ 2 rfl⟩)
    (first
      | (go_at_call 29; (with_reducible refine (K0.out _ hx.1.drew).mono ?_); rintro e x0 ⟨v0, rfl, s0, q0⟩; obtain ⟨A0, c0, rfl, r0⟩ := srow_reads s0; have J0 := Lib.hid (And.intro (hx.1.drew.trans (q0.mono hx.1.drew.size)) (And.intro (hx.2.1.drew.later q0) (hx.2.2.drew.later q0))); have HS0 := Lib.hid s0; clear s0 r0)
      | (go_at_call 29; (with_reducible refine (K1.out _ J0.out.1).mono ?_); rintro e x1 ⟨v1, rfl, s1, q1⟩; obtain ⟨A1, c1, rfl, r1⟩ := srow_reads s1; have J1 := Lib.hid (And.intro (J0.out.1.trans (q1.mono J0.out.1.size)) (And.intro (J0.out.2.1.later q1) (J0.out.2.2.later q1))); have HS1 := Lib.hid s1; clear s1 r1)
      | (go_at_call 29; (with_reducible refine (K2.out _ J1.out.1).mono ?_); rintro e x2 ⟨v2, rfl, s2, q2⟩; obtain ⟨A2, c2, rfl, r2⟩ := srow_reads s2; have J2 := Lib.hid (And.intro (J1.out.1.trans (q2.mono J1.out.1.size)) (And.intro (J1.out.2.1.later q2) (J1.out.2.2.later q2))); have HS2 := Lib.hid s2; clear s2 r2; have f0 := J2.out.2.2.frozen 0; have f1 := J2.out.2.2.frozen 1; have f2 := J2.out.2.2.frozen 2; have f3 := J2.out.2.2.frozen 3; have z0 := J2.out.2.2.at_ 0 rfl; have z1 := J2.out.2.2.at_ 1 rfl; have z2 := J2.out.2.2.at_ 2 rfl; have z3 := J2.out.2.2.at_ 3 rfl))
  obtain ⟨B3, R3, P3⟩ := four_set (v0 := .slice A0 (backL (p 0) tw).length c0) (v1 := .slice A1 (backL (p 1) tw).length c1) (v2 := .slice A2 (backL (p 2) tw).length c2) (v3 := .slice (some ⟨g, 0, none⟩) nets.length cap) J2.out.1 (Nat.le_succ _) J2.out.2.2 rfl rfl
  have t3 := HT3.out
  have HNR := Lib.hid (turned_own HBY.out (t3.blk fun cur hk => P3.blk (((hk.drew.later q0).later q1).later q2) (by decide)))
  have HTX := Lib.hid (And.intro (P3.srow ((HS0.out.later q1).later q2) (by decide)) (And.intro (P3.srow (HS1.out.later q2) (by decide)) (P3.srow HS2.out (by decide))))
  have rz0 := R3.at_ 0 rfl
  have rz1 := R3.at_ 1 rfl
  have rz2 := R3.at_ 2 rfl
  have rz3 := R3.at_ 3 rfl
  have HB3 := Lib.hid (And.intro B3 R3)
  clear t3 R3 P3 B3
  go_wp2
  refine bodyPost_ret (v := .agg #[.slice A0 (backL (p 0) tw).length c0, .slice A1 (backL (p 1) tw).length c1, .slice A2 (backL (p 2) tw).length c2, .slice (some ⟨g, 0, none⟩) nets.length cap])
    (results_cell_row (fn := Tryz.f28) rfl _ _ (w.heap.size + 1) 27 #[.slice A0 (backL (p 0) tw).length c0, .slice A1 (backL (p 1) tw).length c1, .slice A2 (backL (p 2) tw).length c2, .slice (some ⟨g, 0, none⟩) nets.length cap] (0, 0) _ rfl HB3.out.2 Tryz.underlying27 rfl (by kernel_rfl)) rfl
    ⟨pick4 A0 A1 A2 (some ⟨g, 0, none⟩), pick4 c0 c1 c2 cap, by rw [List.length_reverse]; rfl, ⟨fun k hk => ?_, HNR.out⟩, HB3.out.1⟩
  match k, hk with
  | 0, _ => exact HTX.out.1
  | 1, _ => exact HTX.out.2.1
  | 2, _ => exact HTX.out.2.2
end Go.Proofs.YtblabjfjhlablaaGreatDoor
/- The walks of zzFits1 and chainOk (as in the text of FnChain), without what spec says of a chain. -/
namespace Go.Proofs.YtblabjfjhlablaaGreatDoor
open Go.RowKit Go.Sort Nc
theorem certs12 {w : World} {A : Option Addr} {n : Nat} {ks : Nat → GC} {zs : Nat → GSlots} (h : ChainRd w A n ks zs) {k g off o : Nat} (hk : k < n) (hA : A = some ⟨g, off, none⟩) (ho : o = off + k * 12) : w.cell? ⟨g, o, none⟩ = some (.slice ((zs k).pA 0) ((ks k).p 0).length ((zs k).pc 0)) ∧ w.cell? ⟨g, o + 1, none⟩ = some (.slice ((zs k).pA 1) ((ks k).p 1).length ((zs k).pc 1)) ∧ w.cell? ⟨g, o + 2, none⟩ = some (.slice ((zs k).pA 2) ((ks k).p 2).length ((zs k).pc 2)) ∧ w.cell? ⟨g, o + 3, none⟩ = some (.slice ((zs k).pA 3) (ks k).pn.length ((zs k).pc 3)) ∧ w.cell? ⟨g, o + 4, none⟩ = some (.slice ((zs k).eA 0) ((ks k).e 0).length ((zs k).ec 0)) ∧ w.cell? ⟨g, o + 5, none⟩ = some (.slice ((zs k).eA 1) ((ks k).e 1).length ((zs k).ec 1)) ∧ w.cell? ⟨g, o + 6, none⟩ = some (.slice ((zs k).eA 2) ((ks k).e 2).length ((zs k).ec 2)) ∧ w.cell? ⟨g, o + 7, none⟩ = some (.slice ((zs k).eA 3) (ks k).en.length ((zs k).ec 3)) ∧ w.cell? ⟨g, o + 8, none⟩ = some (.slice ((zs k).fA 0) ((ks k).s 0).length ((zs k).fc 0)) ∧ w.cell? ⟨g, o + 9, none⟩ = some (.slice ((zs k).fA 1) ((ks k).s 1).length ((zs k).fc 1)) ∧ w.cell? ⟨g, o + 10, none⟩ = some (.slice ((zs k).fA 2) ((ks k).s 2).length ((zs k).fc 2)) ∧ w.cell? ⟨g, o + 11, none⟩ = some (.slice ((zs k).fA 3) (ks k).ad.length ((zs k).fc 3)) := by
  obtain ⟨g', off', e, hat⟩ := h.at_ (by omega)
  rw [hA] at e
  injection e with e
  injection e with e1 e2 _
  subst e1 e2 ho
  have hj := hat k hk
  obtain ⟨a0, a4, a8⟩ := hj 0 (by omega)
  obtain ⟨a1, a5, a9⟩ := hj 1 (by omega)
  obtain ⟨a2, a6, a10⟩ := hj 2 (by omega)
  obtain ⟨a3, a7, a11⟩ := hj 3 (by omega)
  exact ⟨a0, a1, a2, a3, a4, a5, a6, a7, a8, a9, a10, a11⟩
theorem eg57 : ∀ args w, (callFunc 57 args).run Tryz.prog w = .ok (.enter 57 args) w := enters_of Tryz.func57 (by kernel_rfl) rfl
set_option maxRecDepth 100000 in
theorem notCert_calls (z : GSlots) (c : GC) (w : World) (h : CertRd w z c) (hs : CertSz 2147483647 c) :
    Calls Tryz.prog 57 #[z.val c] w fun e w' => e = .returned (.bool (!certB c)) ∧ Below w.heap.size w w' := by
  have hC : Blk (w.alloc (.cells (z.cells c) 30)) w.heap.size 30 (z.cells c) := Blk.new _ _ _
  have hb0 : Below w.heap.size w (w.alloc (.cells (z.cells c) 30)) := (Below.refl _ _).alloc (Nat.le_refl _) _
  have KO := Lib.hid (fun (W : World) (hW : Below w.heap.size w W) => certOk_calls z c W (h.later hW) hs)
  clear h hs
  unfold GSlots.val cval len4 at *
  unfold GSlots.cells at *
  simp only at *
  generalize certB c = B at *
  have HC := Lib.hid hC
  clear hC
  obtain ⟨d0, d1, d2, d3, d4, d5, d6, d7, d8, d9, d10, d11, e5, e6, e7⟩ := cells12 HC.out
  go_enter Tryz.func57, Tryz.ntmps57
  go_wp2_with (first
    | (go_at_call 19; (with_reducible refine (KO.out _ hb0).mono ?_); rintro e w1 ⟨rfl, hb⟩)
    | fail)
  go_ret
  exact ⟨rfl, hb0.trans (hb.mono hb0.size)⟩
def chainB (ks : Nat → GC) (n : Nat) : Bool := decide (n ≤ 8) && !((List.range n).any fun k => !certB (ks k))
theorem chainB_ok {ks : Nat → GC} {n : Nat} (h : chainB ks n = true) : n ≤ 8 ∧ ∀ k, k < n → certB (ks k) = true := by
  simp only [chainB, Bool.and_eq_true, decide_eq_true_eq, Bool.not_eq_true', List.any_eq_false] at h
  refine ⟨h.1, fun k hk => ?_⟩
  have := h.2 k (List.mem_range.2 hk)
  simpa using this
theorem certsBad_calls (A : Option Addr) (n cap : Nat) (ks : Nat → GC) (zs : Nat → GSlots) (w : World) (h : ChainRd w A n ks zs) (hn : n ≤ 9000000000000000000) (hs : ∀ k, k < n → CertSz 2147483647 (ks k)) :
    Calls Tryz.prog 25 #[.slice A n cap, .func (.func 57) #[] #[]] w fun e w' => e = .returned (.bool ((List.range n).any fun k => !certB (ks k))) ∧ Below w.heap.size w w' :=
  certAny_calls 57 eg57 A n cap (fun k => (zs k).pA) (fun k => (zs k).eA) (fun k => (zs k).fA) (fun k => len4 (ks k).p (ks k).pn.length) (fun k => len4 (ks k).e (ks k).en.length) (fun k => len4 (ks k).s (ks k).ad.length) (fun k => (zs k).pc) (fun k => (zs k).ec) (fun k => (zs k).fc) (fun k => !certB (ks k)) w h.at_ hn
    (fun k hk W hW => notCert_calls (zs k) (ks k) W ((h.later hW).each k hk) (hs k hk))
theorem chainOk_calls (A : Option Addr) (n cap : Nat) (ks : Nat → GC) (zs : Nat → GSlots) (w : World) (h : ChainRd w A n ks zs) (hn : n ≤ 9000000000000000000) (hs : ∀ k, k < n → CertSz 2147483647 (ks k)) :
    Calls Tryz.prog 24 #[.slice A n cap] w fun e w' => e = .returned (.bool (chainB ks n)) ∧ Below w.heap.size w w' := by
  have K := Lib.hid (certsBad_calls A n cap ks zs w h hn hs)
  clear h hs
  unfold chainB
  generalize (List.range n).any (fun k => !certB (ks k)) = R at *
  by_cases h8 : n ≤ 8
  · rw [decide_eq_true h8, Bool.true_and]
    go_enter Tryz.func24, Tryz.ntmps24
    go_wp2_with (first
      | (go_at_call 25; (with_reducible refine K.out.mono ?_); rintro e w1 ⟨rfl, hb⟩)
      | fail)
    go_ret
    exact ⟨rfl, hb⟩
  · rw [decide_eq_false h8, Bool.false_and]
    go_enter Tryz.func24, Tryz.ntmps24
    go_wp2
    go_ret
    exact ⟨rfl, Below.refl _ _⟩
set_option maxRecDepth 100000 in
set_option maxHeartbeats 2000000 in
theorem fits1_calls (A : Option Addr) (n cap : Nat) (ks : Nat → GC) (zs : Nat → GSlots) (w : World) (h : ChainRd w A n ks zs) (hn : n ≤ 9000000000000000000) (hs : ∀ k, k < n → CertSz 9000000000000000000 (ks k)) :
    Calls Tryz.prog 23 #[.slice A n cap] w (Fits (n ≤ 2147483647 ∧ ∀ k, k < n → CertSz 2147483647 (ks k)) w) := by
  by_cases h0 : n ≤ 2147483647
  case neg =>
    clear h hs
    go_enter Tryz.func23, Tryz.ntmps23
    go_wp2
    go_ret
    exact .no (Below.refl _ _)
  have H := Lib.hid h
  have HS := Lib.hid hs
  obtain ⟨Q, hQ⟩ : ∃ Q : Prop, Q = (n ≤ 2147483647 ∧ ∀ k, k < n → CertSz 2147483647 (ks k)) := ⟨_, rfl⟩
  have HQ := Lib.hid (show (∀ k, k < n → CertSz 2147483647 (ks k)) → Q from fun h => hQ ▸ ⟨h0, h⟩)
  rw [← hQ]
  clear h hs hQ
  go_enter Tryz.func23, Tryz.ntmps23
  go_wp2
  go_loopw [10] (fun i wr => ∃ k : Nat, i = .int .i64 k ∧ k ≤ n ∧ Below w.heap.size w wr ∧ Hid (∀ j, j < k → CertSz 2147483647 (ks j))) (fun i _ => n - (intOf i).toNat)
  case atStart => exact ⟨0, rfl, Nat.zero_le _, Below.refl _ _, fun j hj => absurd hj (Nat.not_lt_zero _)⟩
  case round =>
    obtain ⟨k, rfl, hk, hbr, hr⟩ := hrel
    by_cases hlt : k < n
    · obtain ⟨g, off, rfl, _⟩ := H.out.at_ (by omega)
      obtain ⟨a0, a1, a2, a3, a4, a5, a6, a7, a8, a9, a10, a11⟩ := certs12 (H.out.later hbr) (o := off + k * 12) hlt rfl rfl
      have hbA := hbr.alloc hbr.size (.cells ((zs k).cells (ks k)) 30)
      have KC := fits2_calls (zs k) (ks k) _ ((H.out.later hbA).each k hlt) (HS.out k hlt)
      have hnx := Lib.hid (fun (hz : CertSz 2147483647 (ks k)) => (show ∀ j, j < k + 1 → CertSz 2147483647 (ks j) from fun j hj => by
        by_cases e : j = k
        · subst e; exact hz
        · exact hr.out j (by omega)))
      have HKC := Lib.hid KC
      have HBA := Lib.hid hbA
      clear KC hr hbA
      unfold GSlots.val cval len4 at HKC
      unfold GSlots.cells at HKC HBA
      go_wp2_with (first
        | (go_at_call 18; (with_reducible refine HKC.out.mono ?_); rintro e w1 ⟨q, rfl, hb1, hq⟩; have B1 := HBA.out.trans (hb1.mono HBA.out.size); have HF := Lib.hid (fun hh => hnx.out (hq hh)); clear hq; cases q)
        | fail)
      · go_ret
        exact .no B1
      · go_roundw
        case rel => exact ⟨k + 1, by go_num, by omega, B1, by first | exact HF.out trivial | exact HF.out rfl⟩
        case measure => simp only [intOf]; omega
    · obtain rfl : k = n := by omega
      have hq := HQ.out hr.out
      have HQ2 := Lib.hid hq
      clear hr HQ hq
      go_wp2
      go_ret
      exact .yes hbr HQ2.out
def listOf (ks : Nat → GC) (n : Nat) : List GC := (List.range n).map ks
theorem listOf_len (ks : Nat → GC) (n : Nat) : (listOf ks n).length = n := by simp [listOf]
theorem listOf_get (ks : Nat → GC) (n k : Nat) (h : k < (listOf ks n).length) : ks k = (listOf ks n)[k] := by simp [listOf]
theorem listOf_mem {ks : Nat → GC} {n : Nat} {c : GC} (h : c ∈ listOf ks n) : ∃ k, k < n ∧ c = ks k := by
  obtain ⟨k, hk, rfl⟩ := List.mem_map.1 h
  exact ⟨k, List.mem_range.1 hk, rfl⟩
theorem codeB_le (b : Bool) : ∃ m : Nat, codeB b = (m : Int) ∧ m ≤ 1 ∧ (b = true → m = 1) ∧ (b = false → m = 0) := by
  cases b
  · exact ⟨0, rfl, by omega, (fun h => by cases h), fun _ => rfl⟩
  · exact ⟨1, rfl, by omega, fun _ => rfl, (fun h => by cases h)⟩
end Go.Proofs.YtblabjfjhlablaaGreatDoor
/- The walks of spec's Half. -/
namespace Go.Proofs.YtblabjfjhlablaaGreatDoor
open Go.RowKit Go.Sort Nc
theorem max4 (x y z u : Nat) (W : World) : (Builtin.max_ #[3, 3, 3, 3] 3 #[.int .i64 x, .int .i64 y, .int .i64 z, .int .i64 u]).run Tryz.prog W = .ok (.int .i64 (max (max (max x y) z) u : Nat)) W := by
  have h : ∀ a b : Nat, (if (b : Int) > (a : Int) then (b : Int) else (a : Int)) = ((max a b : Nat) : Int) := fun a b => by
    by_cases hab : a < b
    · rw [if_pos (by omega)]; omega
    · rw [if_neg (by omega)]; omega
  have m2 : ∀ (a b : Nat) (W : World), (Builtin.max2 (.int .i64 a) (.int .i64 b)).run Tryz.prog W = .ok (.int .i64 ((max a b : Nat) : Int)) W := fun a b W => by
    rw [← h a b]
    simp [Builtin.max2]
  simp [Builtin.max_, m2, Result.andThen]
def in10 (a b c d : Nat) : Bool := decide (max (max (max a b) c) d ≤ 10)
theorem in10_int (a b c d : Nat) : decide (((max (max (max a b) c) d : Nat) : Int) ≤ 10) = in10 a b c d := decide_eq_decide.2 (by omega)
set_option maxRecDepth 100000 in
theorem halfNames_calls (pA : Nat → Option Addr) (pc : Nat → Nat) (p : Nat → List ByteArray) (nets : List NetV) (w : World) :
    Calls Tryz.prog 59 #[nval pA (len4 p nets.length) pc] w fun e w' => e = .returned (.bool (in10 (p 0).length (p 1).length (p 2).length nets.length)) ∧ Below w.heap.size w w' := by
  have hC : Blk (w.alloc (.cells #[.slice (pA 0) (p 0).length (pc 0), .slice (pA 1) (p 1).length (pc 1), .slice (pA 2) (p 2).length (pc 2), .slice (pA 3) nets.length (pc 3)] 27)) w.heap.size 27 #[.slice (pA 0) (p 0).length (pc 0), .slice (pA 1) (p 1).length (pc 1), .slice (pA 2) (p 2).length (pc 2), .slice (pA 3) nets.length (pc 3)] := Blk.new _ _ _
  have hb0 : Below w.heap.size w (w.alloc (.cells #[.slice (pA 0) (p 0).length (pc 0), .slice (pA 1) (p 1).length (pc 1), .slice (pA 2) (p 2).length (pc 2), .slice (pA 3) nets.length (pc 3)] 27)) := (Below.refl _ _).alloc (Nat.le_refl _) _
  have c0 := hC.at_ 0 rfl
  have c1 := hC.at_ 1 rfl
  have c2 := hC.at_ 2 rfl
  have c3 := hC.at_ 3 rfl
  unfold nval len4
  simp only
  generalize (p 0).length = l0 at *
  generalize (p 1).length = l1 at *
  generalize (p 2).length = l2 at *
  generalize nets.length = l3 at *
  clear hC
  have hm := max4 l0 l1 l2 l3
  have hi := in10_int l0 l1 l2 l3
  generalize in10 l0 l1 l2 l3 = R at *
  generalize max (max (max l0 l1) l2) l3 = M at *
  go_enter Tryz.func59, Tryz.ntmps59
  go_wp2
  go_ret
  exact ⟨by rw [← hi]; rfl, hb0⟩
def halfB (c : GC) : Bool := in10 (c.p 0).length (c.p 1).length (c.p 2).length c.pn.length && in10 (c.e 0).length (c.e 1).length (c.e 2).length c.en.length && in10 (c.s 0).length (c.s 1).length (c.s 2).length c.ad.length
set_option maxRecDepth 100000 in
set_option maxHeartbeats 1000000 in
theorem half_calls (z : GSlots) (c : GC) (w : World) : Calls Tryz.prog 27 #[z.val c] w fun e w' => e = .returned (.bool (halfB c)) ∧ Below w.heap.size w w' := by
  have hC : Blk (w.alloc (.cells (z.cells c) 30)) w.heap.size 30 (z.cells c) := Blk.new _ _ _
  have hb0 : Below w.heap.size w (w.alloc (.cells (z.cells c) 30)) := (Below.refl _ _).alloc (Nat.le_refl _) _
  have KP := Lib.hid (fun (W : World) => halfNames_calls z.pA z.pc c.p c.pn W)
  have KE := Lib.hid (fun (W : World) => halfNames_calls z.eA z.ec c.e c.en W)
  have hm := max4 (c.s 0).length (c.s 1).length (c.s 2).length c.ad.length
  have hi := in10_int (c.s 0).length (c.s 1).length (c.s 2).length c.ad.length
  unfold GSlots.val cval len4 halfB
  unfold GSlots.cells at hC hb0
  unfold nval len4 at KP KE
  simp only at *
  generalize in10 (c.s 0).length (c.s 1).length (c.s 2).length c.ad.length = R at *
  generalize in10 (c.p 0).length (c.p 1).length (c.p 2).length c.pn.length = RP at *
  generalize in10 (c.e 0).length (c.e 1).length (c.e 2).length c.en.length = RE at *
  generalize max (max (max (c.s 0).length (c.s 1).length) (c.s 2).length) c.ad.length = M at *
  have HC := Lib.hid hC
  clear hC
  obtain ⟨d0, d1, d2, d3, d4, d5, d6, d7, d8, d9, d10, d11, e5, e6, e7⟩ := cells12 HC.out
  cases RP
  all_goals cases RE
  all_goals go_enter Tryz.func27, Tryz.ntmps27
  all_goals go_wp2_with (first
    | (go_at_call 59; (with_reducible refine (KP.out _).mono ?_); rintro e w1 ⟨rfl, hb1⟩; have B1 := hb0.trans (hb1.mono hb0.size); have HC1 := Lib.hid (HC.out.later hb1); obtain ⟨f0, f1, f2, f3, f4, f5, f6, f7, f8, f9, f10, f11, fe5, fe6, fe7⟩ := cells12 HC1.out; clear KP)
    | (go_at_call 59; (with_reducible refine (KE.out _).mono ?_); rintro e w2 ⟨rfl, hb2⟩; have B2 := B1.trans (hb2.mono B1.size); have HC2 := Lib.hid (HC1.out.later hb2); obtain ⟨g0, g1, g2, g3, g4, g5, g6, g7, g8, g9, g10, g11, ge5, ge6, ge7⟩ := cells12 HC2.out)
    | fail)
  all_goals go_ret
  all_goals first
    | exact ⟨by simp [← hi], B2⟩
    | exact ⟨by simp [← hi], B1⟩
theorem eg26 : ∀ args w, (callFunc 26 args).run Tryz.prog w = .ok (.enter 26 args) w := enters_of Tryz.func26 (by kernel_rfl) rfl
set_option maxRecDepth 100000 in
theorem notHalf_calls (z : GSlots) (c : GC) (w : World) : Calls Tryz.prog 26 #[z.val c] w fun e w' => e = .returned (.bool (!halfB c)) ∧ Below w.heap.size w w' := by
  have hC : Blk (w.alloc (.cells (z.cells c) 30)) w.heap.size 30 (z.cells c) := Blk.new _ _ _
  have hb0 : Below w.heap.size w (w.alloc (.cells (z.cells c) 30)) := (Below.refl _ _).alloc (Nat.le_refl _) _
  have KO := Lib.hid (fun (W : World) => half_calls z c W)
  unfold GSlots.val cval len4 at *
  unfold GSlots.cells at *
  simp only at *
  generalize halfB c = B at *
  have HC := Lib.hid hC
  clear hC
  obtain ⟨d0, d1, d2, d3, d4, d5, d6, d7, d8, d9, d10, d11, e5, e6, e7⟩ := cells12 HC.out
  go_enter Tryz.func26, Tryz.ntmps26
  go_wp2_with (first
    | (go_at_call 27; (with_reducible refine (KO.out _).mono ?_); rintro e w1 ⟨rfl, hb⟩)
    | fail)
  go_ret
  exact ⟨rfl, hb0.trans (hb.mono hb0.size)⟩
theorem notHalves_calls (A : Option Addr) (n cap : Nat) (ks : Nat → GC) (zs : Nat → GSlots) (w : World) (h : ChainRd w A n ks zs) (hn : n ≤ 9000000000000000000) :
    Calls Tryz.prog 25 #[.slice A n cap, .func (.func 26) #[] #[]] w fun e w' => e = .returned (.bool ((List.range n).any fun k => !halfB (ks k))) ∧ Below w.heap.size w w' :=
  certAny_calls 26 eg26 A n cap (fun k => (zs k).pA) (fun k => (zs k).eA) (fun k => (zs k).fA) (fun k => len4 (ks k).p (ks k).pn.length) (fun k => len4 (ks k).e (ks k).en.length) (fun k => len4 (ks k).s (ks k).ad.length) (fun k => (zs k).pc) (fun k => (zs k).ec) (fun k => (zs k).fc) (fun k => !halfB (ks k)) w h.at_ hn
    (fun k _ W _ => notHalf_calls (zs k) (ks k) W)
end Go.Proofs.YtblabjfjhlablaaGreatDoor
/- Certificates turned round, in rows of the call's own. -/
namespace Go.Proofs.YtblabjfjhlablaaGreatDoor
open Go.RowKit Go.Sort Nc
theorem NamesOwn.later {w0 W W' : World} {qA : Nat → Option Addr} {qc : Nat → Nat} {q : Nat → List ByteArray} {nets : List NetV} (h : NamesOwn w0 W qA qc q nets) (hb : Below W.heap.size W W') : NamesOwn w0 W' qA qc q nets :=
  h.keeps (t := 30) (.of_below hb) (by decide) (by decide)
/-- A certificate in rows of the call's own; its addresses the caller's. -/
structure CertOwn (w0 W : World) (z : GSlots) (c : GC) : Prop where
  p : NamesOwn w0 W z.pA z.pc c.p c.pn
  e : NamesOwn w0 W z.eA z.ec c.e c.en
  s : ∀ k, k < 3 → SRow W 9 (.slice (z.fA k) (c.s k).length (z.fc k)) ((c.s k).map .string)
  a : AddrsRd w0 (z.fA 3) c.ad
theorem CertOwn.keeps {w0 W W' : World} {z : GSlots} {c : GC} (h : CertOwn w0 W z c) (hk : Keeps 30 W W') : CertOwn w0 W' z c :=
  ⟨h.p.keeps hk (by decide) (by decide), h.e.keeps hk (by decide) (by decide), fun k hk' => hk.srow (h.s k hk') (by decide), h.a⟩
theorem CertOwn.later {w0 W W' : World} {z : GSlots} {c : GC} (h : CertOwn w0 W z c) (hb : Below W.heap.size W W') : CertOwn w0 W' z c := h.keeps (.of_below hb)
theorem CertOwn.rd {w0 W : World} {z : GSlots} {c : GC} (h : CertOwn w0 W z c) (hb : Below w0.heap.size w0 W) : CertRd W z c :=
  ⟨h.p.rd hb, h.e.rd hb, fun k hk => srow_at (h.s k hk), h.a.later hb⟩
/-- A certificate turned round. -/
def orderC (tw : Bool) (c : GC) : GC := { p := fun k => backL (c.p k) tw, e := fun k => backL (c.e k) tw, s := fun k => backL (c.s k) tw, pn := c.pn.reverse, en := c.en.reverse, ad := c.ad }
theorem backL_mem (l : List ByteArray) (tw : Bool) (x : ByteArray) : x ∈ l ↔ x ∈ backL l tw := by
  unfold backL
  cases tw <;> simp
theorem backL_len (l : List ByteArray) (tw : Bool) : (backL l tw).length ≤ l.length + l.length := by
  unfold backL
  cases tw <;> simp
theorem orderC_same (tw : Bool) (c : GC) : SameC c (orderC tw c) := by
  exact ⟨fun k x _ => backL_mem _ tw x, fun k x _ => backL_mem _ tw x, fun k x _ => backL_mem _ tw x, fun _ => List.mem_reverse.symm, fun _ => List.mem_reverse.symm, fun _ => Iff.rfl⟩
theorem orderC_ok {c : GC} (tw : Bool) (h : c.Ok XIP) (hp : ∀ k, len4 c.p c.pn.length k ≤ 20) (he : ∀ k, len4 c.e c.en.length k ≤ 20) (hs : ∀ k, len4 c.s c.ad.length k ≤ 20) : (orderC tw c).Ok XIP := by
  have l2 : ∀ (p : Nat → List ByteArray) (n : List NetV), (∀ k, len4 p n.length k ≤ 20) → ∀ k, len4 (fun k => backL (p k) tw) n.reverse.length k ≤ 1000000 := fun p n h k => by
    match k with
    | 0 => have := h 0; have h2 := backL_len (p 0) tw; simp only [len4] at this ⊢; omega
    | 1 => have := h 1; have h2 := backL_len (p 1) tw; simp only [len4] at this ⊢; omega
    | 2 => have := h 2; have h2 := backL_len (p 2) tw; simp only [len4] at this ⊢; omega
    | k + 3 => have := h 3; simp only [len4, List.length_reverse] at this ⊢; omega
  refine ⟨fun k hk x hx => h.p k hk x ((backL_mem _ tw x).2 hx), fun k hk x hx => h.e k hk x ((backL_mem _ tw x).2 hx), fun x hx => h.dns x ((backL_mem _ tw x).2 hx), fun x hx => h.box x ((backL_mem _ tw x).2 hx), fun x hx => h.host x ((backL_mem _ tw x).2 hx), ⟨?_, fun n hn => h.pn.2 n (List.mem_reverse.1 hn)⟩, ⟨?_, fun n hn => h.en.2 n (List.mem_reverse.1 hn)⟩, h.ad, l2 _ _ hp, l2 _ _ he, fun k => ?_⟩
  · have := h.pn.1; show (c.pn.reverse).length ≤ _; rw [List.length_reverse]; exact this
  · have := h.en.1; show (c.en.reverse).length ≤ _; rw [List.length_reverse]; exact this
  · match k with
    | 0 => have := hs 0; have h2 := backL_len (c.s 0) tw; simp only [len4, orderC] at this ⊢; omega
    | 1 => have := hs 1; have h2 := backL_len (c.s 1) tw; simp only [len4, orderC] at this ⊢; omega
    | 2 => have := hs 2; have h2 := backL_len (c.s 2) tw; simp only [len4, orderC] at this ⊢; omega
    | k + 3 => have := hs 3; simp only [len4, orderC] at this ⊢; omega
end Go.Proofs.YtblabjfjhlablaaGreatDoor
/- The walk of FnChainOrder: the loop. -/
namespace Go.Proofs.YtblabjfjhlablaaGreatDoor
open Go.RowKit Go.Sort Nc
theorem cert_info : (Tryz.prog.info? 30).map (fun i => (i.zero, i.size, i.bytes)) = some (some (.agg #[.slice none 0 0, .slice none 0 0, .slice none 0 0, .slice none 0 0, .slice none 0 0, .slice none 0 0, .slice none 0 0, .slice none 0 0, .slice none 0 0, .slice none 0 0, .slice none 0 0, .slice none 0 0]), 12, 288) := by kernel_rfl
/-- The cells of certificates, flat. -/
def flatC (zs : Nat → GSlots) (ks : Nat → GC) (n : Nat) : List Value := (List.range n).flatMap fun k => ((zs k).cells (ks k)).toList
theorem flatC_succ (zs : Nat → GSlots) (ks : Nat → GC) (n : Nat) : flatC zs ks (n + 1) = flatC zs ks n ++ ((zs n).cells (ks n)).toList := by
  unfold flatC
  rw [List.range_succ, List.flatMap_append]
  simp
theorem flatC_len (zs : Nat → GSlots) (ks : Nat → GC) (n : Nat) : (flatC zs ks n).length = n * 12 := by
  induction n with
  | zero => rfl
  | succ n ih => rw [flatC_succ, List.length_append, ih]; simp [GSlots.cells]; omega
theorem flatC_get (zs : Nat → GSlots) (ks : Nat → GC) (n k j : Nat) (hk : k < n) (hj : j < 12) : (flatC zs ks n)[k * 12 + j]? = ((zs k).cells (ks k))[j]? := by
  induction n with
  | zero => omega
  | succ n ih =>
    rw [flatC_succ]
    have hl := flatC_len zs ks n
    by_cases h : k < n
    · rw [List.getElem?_append_left (by omega), ih h]
    · obtain rfl : k = n := by omega
      rw [List.getElem?_append_right (by omega), hl, show k * 12 + j - k * 12 = j by omega]
      simp
theorem flatC_same (zs zs' : Nat → GSlots) (ks : Nat → GC) (n : Nat) (h : ∀ k, k < n → zs k = zs' k) : flatC zs ks n = flatC zs' ks n := by
  induction n with
  | zero => rfl
  | succ n ih => rw [flatC_succ, flatC_succ, ih (fun k hk => h k (by omega)), h n (by omega)]
/-- The row of turned certificates, read as a chain. -/
theorem chain_of_own {w0 W : World} {base n : Nat} {v : Value} {zs : Nat → GSlots} {ks : Nat → GC} (h : W.ownsRow base 30 12 v n (flatC zs ks n)) (hc : ∀ k, k < n → CertOwn w0 W (zs k) (ks k)) (hb : Below w0.heap.size w0 W) :
    ∃ A c, v = .slice A n c ∧ ChainRd W A n ks zs := by
  obtain ⟨h1, h2⟩ := h
  rcases h2 with ⟨rfl, rfl⟩ | ⟨g, cap, cur, rfl, hg, hh, hcp, hm, hs, ht⟩
  · exact ⟨none, 0, rfl, ⟨fun h => absurd h (by omega), fun k hk => absurd hk (by omega)⟩⟩
  · have hgb : Blk W g 30 cur := hh
    have hcell : ∀ k, k < n → ∀ j, j < 12 → W.cell? ⟨g, 0 + k * 12 + j, none⟩ = ((zs k).cells (ks k))[j]? := fun k hk j hj => by
      rw [Nat.zero_add, hgb.cell, ← flatC_get zs ks n k j hk hj, ← ht, List.getElem?_take_of_lt (by omega), Array.getElem?_toList]
    refine ⟨_, cap, rfl, ⟨fun _ => ⟨g, 0, rfl, fun k hk j hj => ?_⟩, fun k hk => (hc k hk).rd hb⟩⟩
    have q := hcell k hk
    match j, hj with
    | 0, _ => exact ⟨q 0 (by omega), q 4 (by omega), q 8 (by omega)⟩
    | 1, _ => exact ⟨q 1 (by omega), q 5 (by omega), q 9 (by omega)⟩
    | 2, _ => exact ⟨q 2 (by omega), q 6 (by omega), q 10 (by omega)⟩
    | 3, _ => exact ⟨q 3 (by omega), q 7 (by omega), q 11 (by omega)⟩
end Go.Proofs.YtblabjfjhlablaaGreatDoor
