/- The walks of slices.IndexFunc and slices.ContainsFunc, at texts, bytes, numbers, networks and certificates. Printed by gen/gen50.py. -/
import Derived.Test.YtblabjfjhlablaaGreatDoorW17
namespace Go.Proofs.YtblabjfjhlablaaGreatDoor
open Go.RowKit Nc
/-- Where the first one is, or -1. -/
def IdxAny (b : Bool) (w : World) (e : Ending) (w' : World) : Prop := ∃ r : Int, e = .returned (.int .i64 r) ∧ decide (0 ≤ r) = b ∧ -1 ≤ r ∧ Below w.heap.size w w'
theorem range_any (n : Nat) (p : Nat → Bool) (k : Nat) (hk : k < n) (h : p k = true) : (List.range n).any p = true := List.any_eq_true.2 ⟨k, List.mem_range.2 hk, h⟩
theorem range_none (n : Nat) (p : Nat → Bool) (h : ∀ k, k < n → p k = false) : (List.range n).any p = false := List.any_eq_false.2 fun k hk => by rw [h k (List.mem_range.1 hk)]; decide
theorem range_list {α : Type} (l : List α) (d : α) (q : α → Bool) : (List.range l.length).any (fun k => q (l.getD k d)) = l.any q := by
  rw [Bool.eq_iff_iff, List.any_eq_true, List.any_eq_true]
  constructor
  · rintro ⟨k, hk, h⟩
    have hk := List.mem_range.1 hk
    refine ⟨l[k], List.getElem_mem hk, ?_⟩
    simpa [hk] using h
  · rintro ⟨x, hx, h⟩
    obtain ⟨k, hk, rfl⟩ := List.getElem_of_mem hx
    exact ⟨k, List.mem_range.2 hk, by simpa [hk] using h⟩
/-- Networks as the caller's memory holds them: two cells each. -/
def NetsAt (w : World) (A : Option Addr) (n : Nat) (p q : Nat → Value) : Prop :=
  0 < n → ∃ g off, A = some ⟨g, off, none⟩ ∧ ∀ k, k < n → w.cell? ⟨g, off + k * 2, none⟩ = some (p k) ∧ w.cell? ⟨g, off + k * 2 + 1, none⟩ = some (q k)
set_option maxRecDepth 100000 in
set_option maxHeartbeats 1000000 in
theorem txtIdx_calls (fid : Nat) (eg : ∀ args w, (callFunc fid args).run Tryz.prog w = .ok (.enter fid args) w) (A : Option Addr) (n c : Nat) (E : Nat → Value) (p : Nat → Bool) (w : World) (h : ∀ k, k < n → ∃ ad, A = some ad ∧ w.cell? (ad.add k) = some (E k)) (hn : n ≤ 9000000000000000000)
    (hp : ∀ k, k < n → ∀ W, Below w.heap.size w W → Calls Tryz.prog fid #[E k] W fun e w' => e = .returned (.bool (p k)) ∧ Below W.heap.size W w') :
    Calls Tryz.prog 83 #[.slice A n c, .func (.func fid) #[] #[]] w (IdxAny ((List.range n).any p) w) := by
  have H := Lib.hid h
  have HP := Lib.hid hp
  have HT := Lib.hid (range_any n p)
  have HF := Lib.hid (range_none n p)
  generalize (List.range n).any p = R at *
  clear h hp
  go_enter Tryz.func83, Tryz.ntmps83
  go_wp2
  go_loopw [8] (fun i wr => ∃ k : Nat, i = .int .i64 k ∧ k ≤ n ∧ Below w.heap.size w wr ∧ Hid (∀ j, j < k → p j = false)) (fun i _ => n - (intOf i).toNat)
  case atStart => exact ⟨0, rfl, Nat.zero_le _, Below.refl _ _, fun j h => absurd h (Nat.not_lt_zero _)⟩
  case round =>
    obtain ⟨k, rfl, hk, hbr, hno⟩ := hrel
    by_cases hlt : k < n
    · have hyes := fun h => HT.out k hlt h
      have hnext : p k = false → Hid (∀ j, j < k + 1 → p j = false) := fun h j hj => by
        rcases Nat.lt_or_eq_of_le (Nat.le_of_lt_succ hj) with h1 | h1
        · exact hno.out j h1
        · subst h1; exact h
      obtain ⟨ad, rfl, cx0⟩ := H.out k hlt
      have cx := cell_keep hbr cx0
      have hpk := HP.out k hlt
      clear cx0
      generalize E k = v at *
      have HY := Lib.hid hyes
      have HN := Lib.hid hnext
      clear hyes hnext hno
      cases hq : p k with
      | true =>
        rw [hq] at hpk
        have hv := HY.out hq
        have HC := Lib.hid hpk
        clear HY HN HT HF hpk hq
        subst hv
        go_wp2_with (go_at_fn fid; refine (HC.out _ hbr).mono ?_; rintro e w1 ⟨rfl, b1⟩)
        go_ret
        exact ⟨_, rfl, decide_eq_true (by omega), by omega, hbr.trans (b1.mono hbr.size)⟩
      | false =>
        rw [hq] at hpk
        have hno2 := HN.out hq
        have HC := Lib.hid hpk
        clear HY HN hpk hq
        go_wp2_with (go_at_fn fid; refine (HC.out _ hbr).mono ?_; rintro e w1 ⟨rfl, b1⟩)
        have hb1 := hbr.trans (b1.mono hbr.size)
        clear b1 hbr cx HC
        go_roundw
        case rel => exact ⟨k + 1, by go_num, by omega, hb1, hno2⟩
        case measure => simp only [intOf]; omega
    · obtain rfl : k = n := by omega
      have hv := HF.out hno.out
      clear HT HF hno
      subst hv
      go_wp2
      go_ret
      exact ⟨_, rfl, rfl, by omega, hbr⟩
theorem txtAny_calls (fid : Nat) (eg : ∀ args w, (callFunc fid args).run Tryz.prog w = .ok (.enter fid args) w) (A : Option Addr) (n c : Nat) (E : Nat → Value) (p : Nat → Bool) (w : World) (h : ∀ k, k < n → ∃ ad, A = some ad ∧ w.cell? (ad.add k) = some (E k)) (hn : n ≤ 9000000000000000000)
    (hp : ∀ k, k < n → ∀ W, Below w.heap.size w W → Calls Tryz.prog fid #[E k] W fun e w' => e = .returned (.bool (p k)) ∧ Below W.heap.size W w') :
    Calls Tryz.prog 49 #[.slice A n c, .func (.func fid) #[] #[]] w fun e w' => e = .returned (.bool ((List.range n).any p)) ∧ Below w.heap.size w w' := by
  have HI := Lib.hid (txtIdx_calls fid eg A n c E p w h hn hp)
  generalize (List.range n).any p = R at *
  clear h hp
  go_enter Tryz.func49, Tryz.ntmps49
  go_wp2_with (fail)
  refine HI.out.mono ?_
  rintro e w1 ⟨r, rfl, rfl, h1, hb⟩
  clear HI
  go_wp2
  go_ret
  exact ⟨rfl, hb⟩
set_option maxRecDepth 100000 in
set_option maxHeartbeats 1000000 in
theorem rowIdx_calls (fid : Nat) (eg : ∀ args w, (callFunc fid args).run Tryz.prog w = .ok (.enter fid args) w) (A : Option Addr) (n c : Nat) (E : Nat → Value) (p : Nat → Bool) (w : World) (h : ∀ k, k < n → ∃ ad, A = some ad ∧ w.cell? (ad.add k) = some (E k)) (hn : n ≤ 9000000000000000000)
    (hp : ∀ k, k < n → ∀ W, Below w.heap.size w W → Calls Tryz.prog fid #[E k] W fun e w' => e = .returned (.bool (p k)) ∧ Below W.heap.size W w') :
    Calls Tryz.prog 84 #[.slice A n c, .func (.func fid) #[] #[]] w (IdxAny ((List.range n).any p) w) := by
  have H := Lib.hid h
  have HP := Lib.hid hp
  have HT := Lib.hid (range_any n p)
  have HF := Lib.hid (range_none n p)
  generalize (List.range n).any p = R at *
  clear h hp
  go_enter Tryz.func84, Tryz.ntmps84
  go_wp2
  go_loopw [8] (fun i wr => ∃ k : Nat, i = .int .i64 k ∧ k ≤ n ∧ Below w.heap.size w wr ∧ Hid (∀ j, j < k → p j = false)) (fun i _ => n - (intOf i).toNat)
  case atStart => exact ⟨0, rfl, Nat.zero_le _, Below.refl _ _, fun j h => absurd h (Nat.not_lt_zero _)⟩
  case round =>
    obtain ⟨k, rfl, hk, hbr, hno⟩ := hrel
    by_cases hlt : k < n
    · have hyes := fun h => HT.out k hlt h
      have hnext : p k = false → Hid (∀ j, j < k + 1 → p j = false) := fun h j hj => by
        rcases Nat.lt_or_eq_of_le (Nat.le_of_lt_succ hj) with h1 | h1
        · exact hno.out j h1
        · subst h1; exact h
      obtain ⟨ad, rfl, cx0⟩ := H.out k hlt
      have cx := cell_keep hbr cx0
      have hpk := HP.out k hlt
      clear cx0
      generalize E k = v at *
      have HY := Lib.hid hyes
      have HN := Lib.hid hnext
      clear hyes hnext hno
      cases hq : p k with
      | true =>
        rw [hq] at hpk
        have hv := HY.out hq
        have HC := Lib.hid hpk
        clear HY HN HT HF hpk hq
        subst hv
        go_wp2_with (go_at_fn fid; refine (HC.out _ hbr).mono ?_; rintro e w1 ⟨rfl, b1⟩)
        go_ret
        exact ⟨_, rfl, decide_eq_true (by omega), by omega, hbr.trans (b1.mono hbr.size)⟩
      | false =>
        rw [hq] at hpk
        have hno2 := HN.out hq
        have HC := Lib.hid hpk
        clear HY HN hpk hq
        go_wp2_with (go_at_fn fid; refine (HC.out _ hbr).mono ?_; rintro e w1 ⟨rfl, b1⟩)
        have hb1 := hbr.trans (b1.mono hbr.size)
        clear b1 hbr cx HC
        go_roundw
        case rel => exact ⟨k + 1, by go_num, by omega, hb1, hno2⟩
        case measure => simp only [intOf]; omega
    · obtain rfl : k = n := by omega
      have hv := HF.out hno.out
      clear HT HF hno
      subst hv
      go_wp2
      go_ret
      exact ⟨_, rfl, rfl, by omega, hbr⟩
theorem rowAny_calls (fid : Nat) (eg : ∀ args w, (callFunc fid args).run Tryz.prog w = .ok (.enter fid args) w) (A : Option Addr) (n c : Nat) (E : Nat → Value) (p : Nat → Bool) (w : World) (h : ∀ k, k < n → ∃ ad, A = some ad ∧ w.cell? (ad.add k) = some (E k)) (hn : n ≤ 9000000000000000000)
    (hp : ∀ k, k < n → ∀ W, Below w.heap.size w W → Calls Tryz.prog fid #[E k] W fun e w' => e = .returned (.bool (p k)) ∧ Below W.heap.size W w') :
    Calls Tryz.prog 51 #[.slice A n c, .func (.func fid) #[] #[]] w fun e w' => e = .returned (.bool ((List.range n).any p)) ∧ Below w.heap.size w w' := by
  have HI := Lib.hid (rowIdx_calls fid eg A n c E p w h hn hp)
  generalize (List.range n).any p = R at *
  clear h hp
  go_enter Tryz.func51, Tryz.ntmps51
  go_wp2_with (fail)
  refine HI.out.mono ?_
  rintro e w1 ⟨r, rfl, rfl, h1, hb⟩
  clear HI
  go_wp2
  go_ret
  exact ⟨rfl, hb⟩
set_option maxRecDepth 100000 in
set_option maxHeartbeats 1000000 in
theorem numIdx_calls (fid : Nat) (eg : ∀ args w, (callFunc fid args).run Tryz.prog w = .ok (.enter fid args) w) (A : Option Addr) (n c : Nat) (E : Nat → Value) (p : Nat → Bool) (w : World) (h : ∀ k, k < n → ∃ ad, A = some ad ∧ w.cell? (ad.add k) = some (E k)) (hn : n ≤ 9000000000000000000)
    (hp : ∀ k, k < n → ∀ W, Below w.heap.size w W → Calls Tryz.prog fid #[E k] W fun e w' => e = .returned (.bool (p k)) ∧ Below W.heap.size W w') :
    Calls Tryz.prog 117 #[.slice A n c, .func (.func fid) #[] #[]] w (IdxAny ((List.range n).any p) w) := by
  have H := Lib.hid h
  have HP := Lib.hid hp
  have HT := Lib.hid (range_any n p)
  have HF := Lib.hid (range_none n p)
  generalize (List.range n).any p = R at *
  clear h hp
  go_enter Tryz.func117, Tryz.ntmps117
  go_wp2
  go_loopw [8] (fun i wr => ∃ k : Nat, i = .int .i64 k ∧ k ≤ n ∧ Below w.heap.size w wr ∧ Hid (∀ j, j < k → p j = false)) (fun i _ => n - (intOf i).toNat)
  case atStart => exact ⟨0, rfl, Nat.zero_le _, Below.refl _ _, fun j h => absurd h (Nat.not_lt_zero _)⟩
  case round =>
    obtain ⟨k, rfl, hk, hbr, hno⟩ := hrel
    by_cases hlt : k < n
    · have hyes := fun h => HT.out k hlt h
      have hnext : p k = false → Hid (∀ j, j < k + 1 → p j = false) := fun h j hj => by
        rcases Nat.lt_or_eq_of_le (Nat.le_of_lt_succ hj) with h1 | h1
        · exact hno.out j h1
        · subst h1; exact h
      obtain ⟨ad, rfl, cx0⟩ := H.out k hlt
      have cx := cell_keep hbr cx0
      have hpk := HP.out k hlt
      clear cx0
      generalize E k = v at *
      have HY := Lib.hid hyes
      have HN := Lib.hid hnext
      clear hyes hnext hno
      cases hq : p k with
      | true =>
        rw [hq] at hpk
        have hv := HY.out hq
        have HC := Lib.hid hpk
        clear HY HN HT HF hpk hq
        subst hv
        go_wp2_with (go_at_fn fid; refine (HC.out _ hbr).mono ?_; rintro e w1 ⟨rfl, b1⟩)
        go_ret
        exact ⟨_, rfl, decide_eq_true (by omega), by omega, hbr.trans (b1.mono hbr.size)⟩
      | false =>
        rw [hq] at hpk
        have hno2 := HN.out hq
        have HC := Lib.hid hpk
        clear HY HN hpk hq
        go_wp2_with (go_at_fn fid; refine (HC.out _ hbr).mono ?_; rintro e w1 ⟨rfl, b1⟩)
        have hb1 := hbr.trans (b1.mono hbr.size)
        clear b1 hbr cx HC
        go_roundw
        case rel => exact ⟨k + 1, by go_num, by omega, hb1, hno2⟩
        case measure => simp only [intOf]; omega
    · obtain rfl : k = n := by omega
      have hv := HF.out hno.out
      clear HT HF hno
      subst hv
      go_wp2
      go_ret
      exact ⟨_, rfl, rfl, by omega, hbr⟩
theorem numAny_calls (fid : Nat) (eg : ∀ args w, (callFunc fid args).run Tryz.prog w = .ok (.enter fid args) w) (A : Option Addr) (n c : Nat) (E : Nat → Value) (p : Nat → Bool) (w : World) (h : ∀ k, k < n → ∃ ad, A = some ad ∧ w.cell? (ad.add k) = some (E k)) (hn : n ≤ 9000000000000000000)
    (hp : ∀ k, k < n → ∀ W, Below w.heap.size w W → Calls Tryz.prog fid #[E k] W fun e w' => e = .returned (.bool (p k)) ∧ Below W.heap.size W w') :
    Calls Tryz.prog 81 #[.slice A n c, .func (.func fid) #[] #[]] w fun e w' => e = .returned (.bool ((List.range n).any p)) ∧ Below w.heap.size w w' := by
  have HI := Lib.hid (numIdx_calls fid eg A n c E p w h hn hp)
  generalize (List.range n).any p = R at *
  clear h hp
  go_enter Tryz.func81, Tryz.ntmps81
  go_wp2_with (fail)
  refine HI.out.mono ?_
  rintro e w1 ⟨r, rfl, rfl, h1, hb⟩
  clear HI
  go_wp2
  go_ret
  exact ⟨rfl, hb⟩
set_option maxRecDepth 100000 in
set_option maxHeartbeats 1000000 in
theorem netIdx_calls (fid : Nat) (eg : ∀ args w, (callFunc fid args).run Tryz.prog w = .ok (.enter fid args) w) (A : Option Addr) (n c : Nat) (a b : Nat → Option Addr) (an bn ac bc : Nat → Nat) (p : Nat → Bool) (w : World) (h : NetsAt w A n (fun k => .slice (a k) (an k) (ac k)) (fun k => .slice (b k) (bn k) (bc k))) (hn : n ≤ 9000000000000000000)
    (hp : ∀ k, k < n → ∀ W, Below w.heap.size w W → Calls Tryz.prog fid #[.agg #[.slice (a k) (an k) (ac k), .slice (b k) (bn k) (bc k)]] W fun e w' => e = .returned (.bool (p k)) ∧ Below W.heap.size W w') :
    Calls Tryz.prog 114 #[.slice A n c, .func (.func fid) #[] #[]] w (IdxAny ((List.range n).any p) w) := by
  have H := Lib.hid h
  have HP := Lib.hid hp
  have HT := Lib.hid (range_any n p)
  have HF := Lib.hid (range_none n p)
  generalize (List.range n).any p = R at *
  clear h hp
  go_enter Tryz.func114, Tryz.ntmps114
  go_wp2
  go_loopw [8] (fun i wr => ∃ k : Nat, i = .int .i64 k ∧ k ≤ n ∧ Below w.heap.size w wr ∧ Hid (∀ j, j < k → p j = false)) (fun i _ => n - (intOf i).toNat)
  case atStart => exact ⟨0, rfl, Nat.zero_le _, Below.refl _ _, fun j h => absurd h (Nat.not_lt_zero _)⟩
  case round =>
    obtain ⟨k, rfl, hk, hbr, hno⟩ := hrel
    by_cases hlt : k < n
    · have hyes := fun h => HT.out k hlt h
      have hnext : p k = false → Hid (∀ j, j < k + 1 → p j = false) := fun h j hj => by
        rcases Nat.lt_or_eq_of_le (Nat.le_of_lt_succ hj) with h1 | h1
        · exact hno.out j h1
        · subst h1; exact h
      obtain ⟨g, off, rfl, hcell⟩ := H.out (by omega)
      obtain ⟨p0, p1⟩ := hcell k hlt
      have P0 := cell_keep hbr p0
      have P1 := cell_keep hbr p1
      have hpk := HP.out k hlt
      clear hcell p0 p1
      have HY := Lib.hid hyes
      have HN := Lib.hid hnext
      clear hyes hnext hno
      cases hq : p k with
      | true =>
        rw [hq] at hpk
        have hv := HY.out hq
        have HC := Lib.hid hpk
        clear HY HN HT HF hpk hq
        subst hv
        go_wp2_with (go_at_fn fid; refine (HC.out _ hbr).mono ?_; rintro e w1 ⟨rfl, b1⟩)
        go_ret
        exact ⟨_, rfl, decide_eq_true (by omega), by omega, hbr.trans (b1.mono hbr.size)⟩
      | false =>
        rw [hq] at hpk
        have hno2 := HN.out hq
        have HC := Lib.hid hpk
        clear HY HN hpk hq
        go_wp2_with (go_at_fn fid; refine (HC.out _ hbr).mono ?_; rintro e w1 ⟨rfl, b1⟩)
        have hb1 := hbr.trans (b1.mono hbr.size)
        clear b1 hbr P0 P1 HC
        go_roundw
        case rel => exact ⟨k + 1, by go_num, by omega, hb1, hno2⟩
        case measure => simp only [intOf]; omega
    · obtain rfl : k = n := by omega
      have hv := HF.out hno.out
      clear HT HF hno
      subst hv
      go_wp2
      go_ret
      exact ⟨_, rfl, rfl, by omega, hbr⟩
theorem netAny_calls (fid : Nat) (eg : ∀ args w, (callFunc fid args).run Tryz.prog w = .ok (.enter fid args) w) (A : Option Addr) (n c : Nat) (a b : Nat → Option Addr) (an bn ac bc : Nat → Nat) (p : Nat → Bool) (w : World) (h : NetsAt w A n (fun k => .slice (a k) (an k) (ac k)) (fun k => .slice (b k) (bn k) (bc k))) (hn : n ≤ 9000000000000000000)
    (hp : ∀ k, k < n → ∀ W, Below w.heap.size w W → Calls Tryz.prog fid #[.agg #[.slice (a k) (an k) (ac k), .slice (b k) (bn k) (bc k)]] W fun e w' => e = .returned (.bool (p k)) ∧ Below W.heap.size W w') :
    Calls Tryz.prog 78 #[.slice A n c, .func (.func fid) #[] #[]] w fun e w' => e = .returned (.bool ((List.range n).any p)) ∧ Below w.heap.size w w' := by
  have HI := Lib.hid (netIdx_calls fid eg A n c a b an bn ac bc p w h hn hp)
  generalize (List.range n).any p = R at *
  clear h hp
  go_enter Tryz.func78, Tryz.ntmps78
  go_wp2_with (fail)
  refine HI.out.mono ?_
  rintro e w1 ⟨r, rfl, rfl, h1, hb⟩
  clear HI
  go_wp2
  go_ret
  exact ⟨rfl, hb⟩
set_option maxRecDepth 100000 in
set_option maxHeartbeats 1000000 in
theorem certIdx_calls (fid : Nat) (eg : ∀ args w, (callFunc fid args).run Tryz.prog w = .ok (.enter fid args) w) (A : Option Addr) (n c : Nat) (pA eA fA : Nat → Nat → Option Addr) (pn en fn pc ec fc : Nat → Nat → Nat) (p : Nat → Bool) (w : World) (h : CertsAt w A n (fun k j => .slice (pA k j) (pn k j) (pc k j)) (fun k j => .slice (eA k j) (en k j) (ec k j)) (fun k j => .slice (fA k j) (fn k j) (fc k j))) (hn : n ≤ 9000000000000000000)
    (hp : ∀ k, k < n → ∀ W, Below w.heap.size w W → Calls Tryz.prog fid #[cval (pA k) (eA k) (fA k) (pn k) (en k) (fn k) (pc k) (ec k) (fc k)] W fun e w' => e = .returned (.bool (p k)) ∧ Below W.heap.size W w') :
    Calls Tryz.prog 58 #[.slice A n c, .func (.func fid) #[] #[]] w (IdxAny ((List.range n).any p) w) := by
  have H := Lib.hid h
  have HP := Lib.hid hp
  have HT := Lib.hid (range_any n p)
  have HF := Lib.hid (range_none n p)
  generalize (List.range n).any p = R at *
  clear h hp
  go_enter Tryz.func58, Tryz.ntmps58
  go_wp2
  go_loopw [8] (fun i wr => ∃ k : Nat, i = .int .i64 k ∧ k ≤ n ∧ Below w.heap.size w wr ∧ Hid (∀ j, j < k → p j = false)) (fun i _ => n - (intOf i).toNat)
  case atStart => exact ⟨0, rfl, Nat.zero_le _, Below.refl _ _, fun j h => absurd h (Nat.not_lt_zero _)⟩
  case round =>
    obtain ⟨k, rfl, hk, hbr, hno⟩ := hrel
    by_cases hlt : k < n
    · have hyes := fun h => HT.out k hlt h
      have hnext : p k = false → Hid (∀ j, j < k + 1 → p j = false) := fun h j hj => by
        rcases Nat.lt_or_eq_of_le (Nat.le_of_lt_succ hj) with h1 | h1
        · exact hno.out j h1
        · subst h1; exact h
      obtain ⟨g, off, rfl, hcell⟩ := H.out (by omega)
      obtain ⟨p00, e00, f00⟩ := hcell k hlt 0 (by omega)
      obtain ⟨p01, e01, f01⟩ := hcell k hlt 1 (by omega)
      obtain ⟨p02, e02, f02⟩ := hcell k hlt 2 (by omega)
      obtain ⟨p03, e03, f03⟩ := hcell k hlt 3 (by omega)
      clear hcell
      have P0 := cell_keep hbr p00
      have P1 := cell_keep hbr p01
      have P2 := cell_keep hbr p02
      have P3 := cell_keep hbr p03
      have E0 := cell_keep hbr e00
      have E1 := cell_keep hbr e01
      have E2 := cell_keep hbr e02
      have E3 := cell_keep hbr e03
      have F0 := cell_keep hbr f00
      have F1 := cell_keep hbr f01
      have F2 := cell_keep hbr f02
      have F3 := cell_keep hbr f03
      clear p00 p01 p02 p03 e00 e01 e02 e03 f00 f01 f02 f03
      have hpk := HP.out k hlt
      unfold cval at hpk
      simp only [Nat.add_zero] at P0 E0 F0
      have HY := Lib.hid hyes
      have HN := Lib.hid hnext
      clear hyes hnext hno
      cases hq : p k with
      | true =>
        rw [hq] at hpk
        have hv := HY.out hq
        have HC := Lib.hid hpk
        clear HY HN HT HF hpk hq
        subst hv
        go_wp2_with (go_at_fn fid; refine (HC.out _ hbr).mono ?_; rintro e w1 ⟨rfl, b1⟩)
        go_ret
        exact ⟨_, rfl, decide_eq_true (by omega), by omega, hbr.trans (b1.mono hbr.size)⟩
      | false =>
        rw [hq] at hpk
        have hno2 := HN.out hq
        have HC := Lib.hid hpk
        clear HY HN hpk hq
        go_wp2_with (go_at_fn fid; refine (HC.out _ hbr).mono ?_; rintro e w1 ⟨rfl, b1⟩)
        have hb1 := hbr.trans (b1.mono hbr.size)
        clear b1 hbr P0 P1 P2 P3 E0 E1 E2 E3 F0 F1 F2 F3 HC
        go_roundw
        case rel => exact ⟨k + 1, by go_num, by omega, hb1, hno2⟩
        case measure => simp only [intOf]; omega
    · obtain rfl : k = n := by omega
      have hv := HF.out hno.out
      clear HT HF hno
      subst hv
      go_wp2
      go_ret
      exact ⟨_, rfl, rfl, by omega, hbr⟩
theorem certAny_calls (fid : Nat) (eg : ∀ args w, (callFunc fid args).run Tryz.prog w = .ok (.enter fid args) w) (A : Option Addr) (n c : Nat) (pA eA fA : Nat → Nat → Option Addr) (pn en fn pc ec fc : Nat → Nat → Nat) (p : Nat → Bool) (w : World) (h : CertsAt w A n (fun k j => .slice (pA k j) (pn k j) (pc k j)) (fun k j => .slice (eA k j) (en k j) (ec k j)) (fun k j => .slice (fA k j) (fn k j) (fc k j))) (hn : n ≤ 9000000000000000000)
    (hp : ∀ k, k < n → ∀ W, Below w.heap.size w W → Calls Tryz.prog fid #[cval (pA k) (eA k) (fA k) (pn k) (en k) (fn k) (pc k) (ec k) (fc k)] W fun e w' => e = .returned (.bool (p k)) ∧ Below W.heap.size W w') :
    Calls Tryz.prog 25 #[.slice A n c, .func (.func fid) #[] #[]] w fun e w' => e = .returned (.bool ((List.range n).any p)) ∧ Below w.heap.size w w' := by
  have HI := Lib.hid (certIdx_calls fid eg A n c pA eA fA pn en fn pc ec fc p w h hn hp)
  generalize (List.range n).any p = R at *
  clear h hp
  go_enter Tryz.func25, Tryz.ntmps25
  go_wp2_with (fail)
  refine HI.out.mono ?_
  rintro e w1 ⟨r, rfl, rfl, h1, hb⟩
  clear HI
  go_wp2
  go_ret
  exact ⟨rfl, hb⟩
end Go.Proofs.YtblabjfjhlablaaGreatDoor
