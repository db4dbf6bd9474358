/- The walks of netip.ParseAddr at texts that are no addresses: an error. -/
import Derived.Test.YtblabjfjhlablaaGreatDoorMem
import Derived.Test.YtblabjfjhlablaaGreatDoorW2
import Derived.RegionTactic
import Derived.Lib.Hide
import Derived.StillTailTactics
import Derived.Laws.RangeAny
namespace Go.Proofs.YtblabjfjhlablaaGreatDoor
open Go.RowKit Nc
theorem ibn {a b : Int} (h : ¬ a = b) : (a == b) = false := beq_eq_false_iff_ne.2 h
theorem ibe {a b : Int} (h : a = b) : (a == b) = true := beq_iff_eq.2 h
/-- An error of netip's; nothing turns but block B. -/
def ErrsB (B : Nat) (w : World) (e : Ending) (w' : World) : Prop := ∃ v, e = .returned (.iface 219 v) ∧ Only B w w'
theorem Only.refl (B : Nat) (w : World) : Only B w w := ⟨fun _ _ _ => Below.refl _ _, Nat.le_refl _, fun _ _ _ => rfl, rfl, rfl, rfl⟩
theorem Only.drewN {B : Nat} {w w' : World} (h : Only B w w') (n : Nat) : Only B w (w'.drewN n) := Only.of B h.size h.block h.os h.tape h.output
theorem Only.setCell {B : Nat} {w w' : World} (h : Only B w w') (i : Nat) (v : Value) : Only B w (w'.setCell ⟨B, i, none⟩ v) :=
  Only.of B (by simpa [World.setCell] using h.size) (fun k hk hn => (Below.heap_setCell _ _ _ _ hn).trans (h.block k hk hn)) h.os h.tape h.output
def dotDig (b : Nat) : Prop := b = 46 ∨ (48 ≤ b ∧ b ≤ 57)
set_option maxRecDepth 100000 in
set_option maxHeartbeats 1000000 in
theorem v4Fields_calls (s : ByteArray) (B : Nat) (w : World) (cs : Array Value) (hB : Blk w B 235 cs) (h4 : cs.size = 4) (hs : s.size ≤ 1000000) (hbad : ∃ j, ∃ h : j < s.size, ¬ dotDig s[j].toNat) :
    Calls Tryz.prog 174 #[.string s, .int .i64 0, .int .i64 s.size, .slice (some ⟨B, 0, none⟩) 4 4] w (ErrsB B w) := by
  have HB := Lib.hid hbad
  clear hbad
  go_enter Tryz.func174, Tryz.ntmps174
  go_wp2
  go_loopw [9, 10, 11, 13] (fun v p d i wr => ∃ (k : Nat) (vv : Int) (pp : Nat) (dd : Int), i = .int .i64 k ∧ v = .int .i64 vv ∧ p = .int .i64 (pp : Int) ∧ d = .int .i64 dd ∧ k ≤ s.size ∧ 0 ≤ vv ∧ vv ≤ 255 ∧ pp ≤ 3 ∧ 0 ≤ dd ∧ dd ≤ k ∧ (∃ cs : Array Value, Blk wr B 235 cs ∧ cs.size = 4) ∧ Only B w wr ∧ Hid (∀ j (h : j < s.size), j < k → dotDig s[j].toNat)) (fun _ _ _ i _ => s.size - (intOf i).toNat)
  case atStart => exact ⟨0, 0, 0, 0, rfl, rfl, rfl, rfl, Nat.zero_le _, by omega, by omega, by omega, by omega, by omega, ⟨cs, hB, h4⟩, Only.refl _ _, fun j h hj => absurd hj (Nat.not_lt_zero _)⟩
  case round =>
    obtain ⟨k, vv, pp, dd, rfl, rfl, rfl, rfl, hk, v0, v1, p1, d0, d1, ⟨cs', hB', h4'⟩, hO, hall⟩ := hrel
    clear hB h4
    by_cases hlt : k < s.size
    · have u1 := (s[k]).toNat_lt
      have hnext : dotDig s[k].toNat → Hid (∀ j (h : j < s.size), j < k + 1 → dotDig s[j].toNat) := fun hd j h hj => by
        by_cases e : j = k
        · subst e; exact hd
        · exact hall.out j h (by omega)
      have HN := Lib.hid hnext
      clear hnext hall
      by_cases c1 : 48 ≤ s[k].toNat
      · by_cases c2 : s[k].toNat ≤ 57
        · have HN2 := HN.out (.inr ⟨c1, c2⟩)
          clear HN
          by_cases e1 : dd = 1
          · by_cases e2 : vv = 0
            · have t1 : (dd == 1) = true := ibe e1
              have t2 : (vv == 0) = true := ibe e2
              clear e1 e2
              go_wp2
              go_ret
              exact ⟨_, rfl, hO⟩
            · have t1 : (dd == 1) = true := ibe e1
              have t2 : (vv == 0) = false := ibn e2
              clear e1 e2
              by_cases e3 : vv * 10 + (s[k].toNat : Int) - 48 ≤ 255
              · go_wp2
                go_roundw
                case rel => exact ⟨k + 1, _, _, _, by go_num, rfl, rfl, rfl, by omega, by omega, by omega, by omega, by omega, by omega, ⟨cs', hB', h4'⟩, hO, HN2⟩
                case measure => simp only [intOf]; omega
              · go_wp2
                go_ret
                exact ⟨_, rfl, hO⟩
          · have t1 : (dd == 1) = false := ibn e1
            clear e1
            by_cases e3 : vv * 10 + (s[k].toNat : Int) - 48 ≤ 255
            · go_wp2
              go_roundw
              case rel => exact ⟨k + 1, _, _, _, by go_num, rfl, rfl, rfl, by omega, by omega, by omega, by omega, by omega, by omega, ⟨cs', hB', h4'⟩, hO, HN2⟩
              case measure => simp only [intOf]; omega
            · go_wp2
              go_ret
              exact ⟨_, rfl, hO⟩
        · have t3 : ((s[k].toNat : Int) == 46) = false := ibn (by omega)
          clear HN
          go_wp2
          go_ret
          exact ⟨_, rfl, hO⟩
      · by_cases c3 : s[k].toNat = 46
        · have HN2 := HN.out (.inl c3)
          have t3 : ((s[k].toNat : Int) == 46) = true := ibe (by omega)
          clear HN c3
          by_cases e1 : k = 0
          · have t1 : ((k : Int) == 0) = true := ibe (by omega)
            clear e1
            go_wp2
            go_ret
            exact ⟨_, rfl, hO⟩
          · have t1 : ((k : Int) == 0) = false := ibn (by omega)
            by_cases e2 : k + 1 = s.size
            · have t2 : ((k : Int) == (s.size : Int) - 1) = true := ibe (by omega)
              clear e2
              go_wp2
              go_ret
              exact ⟨_, rfl, hO⟩
            · have t2 : ((k : Int) == (s.size : Int) - 1) = false := ibn (by omega)
              clear e2
              have hk1 : k - 1 < s.size := by omega
              by_cases e3 : s[k - 1].toNat = 46
              · have t4 : ((s[k - 1].toNat : Int) == 46) = true := ibe (by omega)
                clear e3
                go_wp2
                go_ret
                exact ⟨_, rfl, hO⟩
              · have t4 : ((s[k - 1].toNat : Int) == 46) = false := ibn (by omega)
                clear e3
                by_cases e4 : pp = 3
                · have t5 : ((pp : Int) == 3) = true := ibe (by omega)
                  clear e4
                  go_wp2
                  go_ret
                  exact ⟨_, rfl, hO⟩
                · have t5 : ((pp : Int) == 3) = false := ibn (by omega)
                  have hpp : pp < 4 := by omega
                  have hp3 : pp + 1 ≤ 3 := by omega
                  have cc := hB'.at_ pp (Array.getElem?_eq_getElem (h4' ▸ hpp))
                  have ff := hB'.frozen pp
                  generalize cs'[pp] = old at cc
                  have h4h := Lib.hid h4'
                  clear e4 h4'
                  go_wp2
                  go_roundw
                  case rel => exact ⟨k + 1, _, _, _, by go_num, rfl, by go_num, rfl, by omega, by omega, by omega, by omega, by omega, by omega, ⟨_, hB'.set_ _ _, by simpa using h4h.out⟩, hO.setCell _ _, HN2⟩
                  case measure => simp only [intOf]; omega
        · have t3 : ((s[k].toNat : Int) == 46) = false := ibn (by omega)
          clear HN
          go_wp2
          go_ret
          exact ⟨_, rfl, hO⟩
    · exfalso
      obtain ⟨j, hj, hd⟩ := HB.out
      exact hd (hall.out j hj (by omega))
end Go.Proofs.YtblabjfjhlablaaGreatDoor
/- The walks of netip's parseIPv4 and ParseAddr at texts that are no addresses. -/
namespace Go.Proofs.YtblabjfjhlablaaGreatDoor
open Go.RowKit Nc
/-- An address, and an error. -/
def Fails (w : World) (e : Ending) (w' : World) : Prop := ∃ v, e = .returned (.tuple #[.agg #[.int .u64 0, .int .u64 0, .pointer none], .iface 219 v]) ∧ Below w.heap.size w w'
theorem Only.below_new {w0 w w' : World} {B : Nat} (h : Only B w w') (hb : Below w0.heap.size w0 w) (hB : w0.heap.size ≤ B) : Below w0.heap.size w0 w' := hb.trans (h.below _ hB hb.size)
set_option maxRecDepth 100000 in
theorem parseIPv4_calls (s : ByteArray) (w : World) (hs : s.size ≤ 1000000) (hbad : ∃ j, ∃ h : j < s.size, ¬ dotDig s[j].toNat) : Calls Tryz.prog 151 #[.string s] w (Fails w) := by
  have HB := Lib.hid hbad
  clear hbad
  go_enter Tryz.func151, Tryz.ntmps151
  go_wp2_with (fail)
  have hb1 : Below w.heap.size w (w.alloc (.cells #[.int .u64 0, .int .u64 0, .pointer none] 172)) := (Below.refl _ _).alloc (Nat.le_refl _) _
  have hb2 := hb1.alloc hb1.size (.cells #[.int .u8 0, .int .u8 0, .int .u8 0, .int .u8 0] 235)
  have hr := (Blk.new w 172 #[.int .u64 0, .int .u64 0, .pointer none]).alloc (.cells #[.int .u8 0, .int .u8 0, .int .u8 0, .int .u8 0] 235)
  have hf := Blk.new (w.alloc (.cells #[.int .u64 0, .int .u64 0, .pointer none] 172)) 235 #[.int .u8 0, .int .u8 0, .int .u8 0, .int .u8 0]
  rw [World.size_alloc] at hf
  refine (v4Fields_calls s (w.heap.size + 1) _ _ hf rfl hs HB.out).mono ?_
  rintro e w1 ⟨v, rfl, hO⟩
  have hr1 := hO.blk hr (by omega)
  have hb3 := hO.below_new hb2 (by omega)
  have c0 := hr1.at_ 0 rfl
  have c1 := hr1.at_ 1 rfl
  have c2 := hr1.at_ 2 rfl
  have f0 := hr1.frozen 0
  have f1 := hr1.frozen 1
  have f2 := hr1.frozen 2
  have hrr := ((hr1.set_ 0 (.int .u64 0)).set_ 1 (.int .u64 0)).set_ 2 (.pointer none)
  have hb4 := ((hb3.setCell (p := ⟨w.heap.size, 0, none⟩) (Nat.le_refl _) (.int .u64 0)).setCell (p := ⟨w.heap.size, 1, none⟩) (Nat.le_refl _) (.int .u64 0)).setCell (p := ⟨w.heap.size, 2, none⟩) (Nat.le_refl _) (.pointer none)
  clear hr1 hO hr hf hb1 hb2 hb3
  go_wp2
  generalize ((w1.setCell ⟨w.heap.size, 0, none⟩ (.int .u64 0)).setCell ⟨w.heap.size, 1, none⟩ (.int .u64 0)).setCell ⟨w.heap.size, 2, none⟩ (.pointer none) = W' at *
  clear c0 c1 c2
  have x0 := hrr.at_ 0 rfl
  have x1 := hrr.at_ 1 rfl
  have x2 := hrr.at_ 2 rfl
  refine bodyPost_ret (v := .tuple #[.agg #[.int .u64 0, .int .u64 0, .pointer none], .iface 219 v]) (by simp [results, Tryz.results151, go_sem, x0, x1, x2]) rfl ⟨_, rfl, hb4⟩
def badAddr (s : ByteArray) : Prop := (∀ j (h : j < s.size), s[j].toNat ≠ 58) ∧ ∃ j, ∃ h : j < s.size, ¬ dotDig s[j].toNat
set_option maxRecDepth 100000 in
set_option maxHeartbeats 1000000 in
theorem parseAddr_calls (s : ByteArray) (w : World) (hs : s.size ≤ 1000000) (hc : ∀ j (h : j < s.size), s[j].toNat ≠ 58) (hbad : ∃ j, ∃ h : j < s.size, ¬ dotDig s[j].toNat) : Calls Tryz.prog 123 #[.string s] w (Fails w) := by
  have HB := Lib.hid hbad
  have HC := Lib.hid hc
  clear hbad hc
  have hb1 : Below w.heap.size w (w.alloc (.cells #[.int .u64 0, .int .u64 0, .pointer none] 172)) := (Below.refl _ _).alloc (Nat.le_refl _) _
  have hr := (Blk.new w 172 #[.int .u64 0, .int .u64 0, .pointer none])
  have HX := Lib.hid hb1
  have HR := Lib.hid hr
  clear hb1 hr
  go_enter Tryz.func123, Tryz.ntmps123
  go_wp2
  generalize w.alloc (.cells #[.int .u64 0, .int .u64 0, .pointer none] 172) = w1 at *
  go_loop [4] (fun i => ∃ k : Nat, i = .int .i64 k ∧ k ≤ s.size) (fun i => s.size - (intOf i).toNat)
  case atStart => exact ⟨0, rfl, Nat.zero_le _⟩
  case round =>
    obtain ⟨k, rfl, hk⟩ := hrel
    by_cases hlt : k < s.size
    · have u1 := (s[k]).toNat_lt
      have u2 := HC.out k hlt
      have t1 : ((s[k].toNat : Int) == 58) = false := ibn (by omega)
      by_cases e1 : s[k].toNat = 46
      · have t2 : ((s[k].toNat : Int) == 46) = true := ibe (by omega)
        clear e1 u2
        go_wp2_with (fail)
        refine (parseIPv4_calls s w1 hs HB.out).mono ?_
        rintro e w2 ⟨v, rfl, hb2⟩
        have hr2 := HR.out.later hb2
        have hb3 := HX.out.trans (hb2.mono HX.out.size)
        have c0 := hr2.at_ 0 rfl
        have c1 := hr2.at_ 1 rfl
        have c2 := hr2.at_ 2 rfl
        have f0 := hr2.frozen 0
        have f1 := hr2.frozen 1
        have f2 := hr2.frozen 2
        have hrr := ((hr2.set_ 0 (.int .u64 0)).set_ 1 (.int .u64 0)).set_ 2 (.pointer none)
        have hb4 := ((hb3.setCell (p := ⟨w.heap.size, 0, none⟩) (Nat.le_refl _) (.int .u64 0)).setCell (p := ⟨w.heap.size, 1, none⟩) (Nat.le_refl _) (.int .u64 0)).setCell (p := ⟨w.heap.size, 2, none⟩) (Nat.le_refl _) (.pointer none)
        clear hr2 hb3 hb2 HB HC HX HR
        go_wp2
        generalize ((w2.setCell ⟨w.heap.size, 0, none⟩ (.int .u64 0)).setCell ⟨w.heap.size, 1, none⟩ (.int .u64 0)).setCell ⟨w.heap.size, 2, none⟩ (.pointer none) = W' at *
        clear c0 c1 c2
        have x0 := hrr.at_ 0 rfl
        have x1 := hrr.at_ 1 rfl
        have x2 := hrr.at_ 2 rfl
        refine bodyPost_ret (v := .tuple #[.agg #[.int .u64 0, .int .u64 0, .pointer none], _]) (by simp [results, Tryz.results123, go_sem, x0, x1, x2]; rfl) rfl ⟨_, rfl, hb4⟩
      · have t2 : ((s[k].toNat : Int) == 46) = false := ibn (by omega)
        clear e1 u2
        by_cases e2 : s[k].toNat = 37
        · have t3 : ((s[k].toNat : Int) == 37) = true := ibe (by omega)
          clear e2
          have c0 := HR.out.at_ 0 rfl
          have c1 := HR.out.at_ 1 rfl
          have c2 := HR.out.at_ 2 rfl
          have f0 := HR.out.frozen 0
          have f1 := HR.out.frozen 1
          have f2 := HR.out.frozen 2
          have hrr := ((HR.out.set_ 0 (.int .u64 0)).set_ 1 (.int .u64 0)).set_ 2 (.pointer none)
          have hb4 := ((HX.out.setCell (p := ⟨w.heap.size, 0, none⟩) (Nat.le_refl _) (.int .u64 0)).setCell (p := ⟨w.heap.size, 1, none⟩) (Nat.le_refl _) (.int .u64 0)).setCell (p := ⟨w.heap.size, 2, none⟩) (Nat.le_refl _) (.pointer none)
          clear HB HC HX HR
          go_wp2
          generalize ((w1.setCell ⟨w.heap.size, 0, none⟩ (.int .u64 0)).setCell ⟨w.heap.size, 1, none⟩ (.int .u64 0)).setCell ⟨w.heap.size, 2, none⟩ (.pointer none) = W' at *
          clear c0 c1 c2
          have x0 := hrr.at_ 0 rfl
          have x1 := hrr.at_ 1 rfl
          have x2 := hrr.at_ 2 rfl
          refine bodyPost_ret (v := .tuple #[.agg #[.int .u64 0, .int .u64 0, .pointer none], _]) (by simp [results, Tryz.results123, go_sem, x0, x1, x2]; rfl) rfl ⟨_, rfl, hb4⟩
        · have t3 : ((s[k].toNat : Int) == 37) = false := ibn (by omega)
          clear e2
          go_wp2
          go_round
          case rel => exact ⟨k + 1, by go_num, by omega⟩
          case measure => simp only [intOf]; omega
    · have hke : ¬ ((k : Int) < s.size) := by omega
      have c0 := HR.out.at_ 0 rfl
      have c1 := HR.out.at_ 1 rfl
      have c2 := HR.out.at_ 2 rfl
      have f0 := HR.out.frozen 0
      have f1 := HR.out.frozen 1
      have f2 := HR.out.frozen 2
      have hrr := ((HR.out.set_ 0 (.int .u64 0)).set_ 1 (.int .u64 0)).set_ 2 (.pointer none)
      have hb4 := ((HX.out.setCell (p := ⟨w.heap.size, 0, none⟩) (Nat.le_refl _) (.int .u64 0)).setCell (p := ⟨w.heap.size, 1, none⟩) (Nat.le_refl _) (.int .u64 0)).setCell (p := ⟨w.heap.size, 2, none⟩) (Nat.le_refl _) (.pointer none)
      clear HB HC HX HR
      go_wp2
      generalize ((w1.setCell ⟨w.heap.size, 0, none⟩ (.int .u64 0)).setCell ⟨w.heap.size, 1, none⟩ (.int .u64 0)).setCell ⟨w.heap.size, 2, none⟩ (.pointer none) = W' at *
      clear c0 c1 c2
      have x0 := hrr.at_ 0 rfl
      have x1 := hrr.at_ 1 rfl
      have x2 := hrr.at_ 2 rfl
      refine bodyPost_ret (v := .tuple #[.agg #[.int .u64 0, .int .u64 0, .pointer none], _]) (by simp [results, Tryz.results123, go_sem, x0, x1, x2]; rfl) rfl ⟨_, rfl, hb4⟩
end Go.Proofs.YtblabjfjhlablaaGreatDoor
/- The walks of zzIndex and zzContains: whether one text stands in another. -/
namespace Go.Proofs.YtblabjfjhlablaaGreatDoor
open Go.RowKit Nc
def hasAt (s sub : ByteArray) (k : Nat) : Bool := (s.extract k (k + sub.size)).toList == sub.toList
/-- The text holds the other one at some place. -/
def hasB (s sub : ByteArray) : Bool := (List.range (s.size + 1 - sub.size)).any (hasAt s sub)
def IdxSays (b : Bool) (w : World) (e : Ending) (w' : World) : Prop := ∃ r : Int, e = .returned (.int .i64 r) ∧ w = w' ∧ decide (0 ≤ r) = b ∧ -1 ≤ r
set_option maxHeartbeats 1000000 in
theorem zzIndex_calls (s sub : ByteArray) (w : World) (hs : s.size ≤ 1000000) (h1 : sub.size ≤ 1000000) : Calls Tryz.prog 147 #[.string s, .string sub] w (IdxSays (hasB s sub) w) := by
  have HR := Lib.hid (show hasB s sub = hasB s sub from rfl)
  generalize hR : hasB s sub = R at *
  have HX := Lib.hid hR
  clear HR hR
  go_enter Tryz.func147, Tryz.ntmps147
  go_wp2
  go_loop [5] (fun i => ∃ k : Nat, i = .int .i64 k ∧ k ≤ s.size + 1 ∧ Hid (∀ j, j < k → j + sub.size ≤ s.size → hasAt s sub j = false)) (fun i => s.size + 1 - (intOf i).toNat)
  case atStart => exact ⟨0, rfl, Nat.zero_le _, fun j h => absurd h (Nat.not_lt_zero _)⟩
  case round =>
    obtain ⟨k, rfl, hk, hno⟩ := hrel
    by_cases hlt : k + sub.size ≤ s.size
    · cases hh : hasAt s sub k with
      | true =>
        have hb : ((s.extract k (k + sub.size)).toList == sub.toList) = true := hh
        have hR : R = true := by
          rw [← HX.out]
          exact List.any_eq_true.2 ⟨k, List.mem_range.2 (by omega), hh⟩
        subst hR
        clear hh HX hno
        go_wp2
        go_ret
        exact ⟨_, rfl, rfl, decide_eq_true (by omega), by omega⟩
      | false =>
        have hb : ((s.extract k (k + sub.size)).toList == sub.toList) = false := hh
        have hno2 : Hid (∀ j, j < k + 1 → j + sub.size ≤ s.size → hasAt s sub j = false) := fun j h h2 => by
          by_cases e : j = k
          · subst e; exact hh
          · exact hno.out j (by omega) h2
        clear hh hno
        go_wp2
        go_round
        case rel => exact ⟨k + 1, by go_num, by omega, hno2⟩
        case measure => simp only [intOf]; omega
    · have hR : R = false := by
        rw [← HX.out]
        refine List.any_eq_false.2 fun j hj => ?_
        have := List.mem_range.1 hj
        rw [hno.out j (by omega) (by omega)]
        simp
      subst hR
      clear HX hno
      go_wp2
      go_ret
      exact ⟨_, rfl, rfl, by decide, by omega⟩
theorem zzContains_calls (s sub : ByteArray) (w : World) (hs : s.size ≤ 1000000) (h1 : sub.size ≤ 1000000) : Calls Tryz.prog 120 #[.string s, .string sub] w fun e w' => e = .returned (.bool (hasB s sub)) ∧ w = w' := by
  have H := Lib.hid (zzIndex_calls s sub w hs h1)
  generalize hasB s sub = R at *
  go_enter Tryz.func120, Tryz.ntmps120
  go_wp2_with (fail)
  refine H.out.mono ?_
  rintro e w1 ⟨r, rfl, rfl, hr, hr1⟩
  subst hr
  go_wp2
  go_ret
  exact ⟨rfl, rfl⟩
end Go.Proofs.YtblabjfjhlablaaGreatDoor
/- The walks of zzIndexRune and zzContainsRune at '@': whether the byte stands in the text. -/
namespace Go.Proofs.YtblabjfjhlablaaGreatDoor
open Go.RowKit Nc
def hasSign (s : ByteArray) : Bool := s.data.toList.any (fun b => decide (b.toNat = 64))
theorem get_ba (s : ByteArray) (k : Nat) (h : k < s.size) : (s.get! k) = s[k] := by
  show s.data[k]! = _
  rw [getElem!_pos s.data k h]
  rfl
/-- What a rune takes beyond one byte are bytes beyond ASCII. -/
theorem decode_span (s : ByteArray) (pos : Nat) (h : pos < s.size) (hi : 128 ≤ s[pos].toNat) : ∀ j (hj : j < s.size), pos ≤ j → j < pos + (Utf8.decode s pos).2 → 128 ≤ s[j].toNat := by
  intro j hj h1 h2
  have key : ∀ k, pos + k < s.size → (s.get! (pos + k)).toNat / 64 = 2 → ∀ h : pos + k < s.size, 128 ≤ (s[pos + k]).toNat := by
    intro k hk he hk2
    rw [get_ba s _ hk] at he
    omega
  have h0 : (s.get! (pos + 0)).toNat = s[pos].toNat := by rw [Nat.add_zero, get_ba s pos h]
  obtain ⟨k, rfl⟩ : ∃ k, j = pos + k := ⟨j - pos, by omega⟩
  by_cases hk0 : k = 0
  · subst hk0; exact hi
  unfold Utf8.decode at h2
  simp only [h0] at h2
  rw [if_neg (by omega)] at h2
  repeat' split at h2
  all_goals first
    | (exfalso; simp only at h2; omega)
    | (rename_i hc _
       simp only [Bool.and_eq_true, decide_eq_true_eq, beq_iff_eq] at hc
       simp only at h2
       have hk : k = 1 ∨ k = 2 ∨ k = 3 := by omega
       rcases hk with rfl | rfl | rfl
       all_goals first
         | (exfalso; omega)
         | exact key _ (by omega) (by omega) hj)
def IdxB (b : Bool) (w : World) (e : Ending) (w' : World) : Prop := ∃ r : Int, e = .returned (.int .i64 r) ∧ Below w.heap.size w w' ∧ decide (0 ≤ r) = b ∧ -1 ≤ r
set_option maxRecDepth 100000 in
set_option maxHeartbeats 1000000 in
theorem zzIndexRune_calls (s : ByteArray) (w : World) : Calls Tryz.prog 146 #[.string s, .int .i32 64] w (IdxB (hasSign s) w) := by
  generalize hR : hasSign s = R
  have HX := Lib.hid hR
  clear hR
  go_enter Tryz.func146, Tryz.ntmps146
  go_wp2
  go_loopw [5] (fun _ w' => ∃ pos : Nat, w' = w.iter s pos ∧ Hid (∀ j (h : j < s.size), j < pos → s[j].toNat ≠ 64)) (fun _ w' => s.size - w'.iterPos w.heap.size)
  case atStart => exact ⟨0, rfl, fun j _ h => absurd h (Nat.not_lt_zero _)⟩
  case round =>
    obtain ⟨pos, rfl, hno⟩ := hrel
    by_cases hp : pos < s.size
    · have hnx : ∀ ty, (Instr.next (.pointer (some ⟨w.heap.size, 0, none⟩)) true ty).run Tryz.prog (w.iter s pos) = _ := fun ty => run_next_any w s pos ty hp
      by_cases h64 : s[pos].toNat = 64
      · have hd := decode_ascii s pos hp (by omega)
        rw [h64] at hd
        rw [hd] at hnx
        have hR : R = true := by
          rw [← HX.out]
          exact List.any_eq_true.2 ⟨s[pos], List.getElem_mem (l := s.data.toList) (n := pos) (by simpa using hp), by simpa using h64⟩
        subst hR
        clear hd h64 HX hno
        go_wp2
        go_ret
        exact ⟨_, rfl, (Below.refl _ _).alloc (Nat.le_refl _) _, decide_eq_true (by omega), by omega⟩
      · have hne : (((Utf8.decode s pos).1 : Int) == 64) = false := by
          by_cases ha : s[pos].toNat < 128
          · rw [decode_ascii s pos hp ha]; exact ibn (by simp only; omega)
          · exact ibn (by have := (decode_high s pos hp (by omega)).1; omega)
        have hwd : 1 ≤ (Utf8.decode s pos).2 := by
          by_cases ha : s[pos].toNat < 128
          · rw [decode_ascii s pos hp ha]; exact Nat.le_refl _
          · exact (decode_high s pos hp (by omega)).2
        have hno2 : Hid (∀ j (h : j < s.size), j < pos + (Utf8.decode s pos).2 → s[j].toNat ≠ 64) := fun j hj h => by
          by_cases h1 : j < pos
          · exact hno.out j hj h1
          · by_cases ha : s[pos].toNat < 128
            · rw [decode_ascii s pos hp ha] at h
              simp only at h
              obtain rfl : j = pos := by omega
              exact h64
            · have := decode_span s pos hp (by omega) j hj (by omega) h
              omega
        generalize Utf8.decode s pos = d at *
        clear h64 hno
        go_wp2
        go_roundw
        case rel => exact ⟨pos + d.2, rfl, hno2⟩
        case measure =>
          simp only [World.iterPos_iter]
          omega
    · have hnx : ∀ ty, (Instr.next (.pointer (some ⟨w.heap.size, 0, none⟩)) true ty).run Tryz.prog (w.iter s pos) = _ := fun ty => run_next_end w s pos ty hp
      have hR : R = false := by
        rw [← HX.out]
        refine List.any_eq_false.2 fun b hb => ?_
        obtain ⟨j, hj, rfl⟩ := List.getElem_of_mem hb
        have hj' : j < s.size := by simpa using hj
        have := hno.out j hj' (by omega)
        rw [decide_eq_true_eq]; exact this
      subst hR
      clear HX hno
      go_wp2
      go_ret
      exact ⟨_, rfl, (Below.refl _ _).alloc (Nat.le_refl _) _, by decide, by omega⟩
theorem zzContainsRune_calls (s : ByteArray) (w : World) : Calls Tryz.prog 113 #[.string s, .int .i32 64] w fun e w' => e = .returned (.bool (hasSign s)) ∧ Below w.heap.size w w' := by
  have H := Lib.hid (zzIndexRune_calls s w)
  generalize hasSign s = R at *
  go_enter Tryz.func113, Tryz.ntmps113
  go_wp2_with (fail)
  refine H.out.mono ?_
  rintro e w1 ⟨r, rfl, hb, hr, hr1⟩
  subst hr
  go_wp2
  go_ret
  exact ⟨rfl, hb⟩
end Go.Proofs.YtblabjfjhlablaaGreatDoor
