/- The walks of spec.Plain and zzFits4. -/
import Derived.Test.YtblabjfjhlablaaGreatDoorW18
namespace Go.Proofs.YtblabjfjhlablaaGreatDoor
open Go.RowKit Nc
def plainS (s : ByteArray) : Bool := decide (s.size ≤ 300) && s.data.toList.all (fun b => decide (b.toNat ≠ 0))
theorem plain_ok (l : List ByteArray) (h : l.all plainS = true) : PlainL l := fun c hc => by
  have := List.all_eq_true.1 h c hc
  unfold plainS at this
  simp only [Bool.and_eq_true, decide_eq_true_eq, List.all_eq_true] at this
  refine ⟨this.1, fun b hb e => ?_⟩
  subst e
  exact this.2 _ hb rfl
set_option maxRecDepth 100000 in
set_option maxHeartbeats 1000000 in
theorem plain_calls (A : Option Addr) (l : List ByteArray) (c : Nat) (w : World) (h : ∀ k, (hk : k < l.length) → ∃ ad, A = some ad ∧ w.cell? (ad.add k) = some (.string l[k])) (hl : l.length ≤ 1000000) (hs : ∀ x ∈ l, x.size ≤ 2147483647) :
    Calls Tryz.prog 12 #[.slice A l.length c] w fun e w' => e = .returned (.bool (l.all plainS)) ∧ w = w' := by
  have H := Lib.hid h
  have HS := Lib.hid hs
  have HR := Lib.hid (show l.all plainS = (l.drop 0).all plainS from rfl)
  generalize l.all plainS = R at *
  clear h hs
  go_enter Tryz.func12, Tryz.ntmps12
  go_wp2
  go_loop [8] (fun i => ∃ k : Nat, i = .int .i64 k ∧ k ≤ l.length ∧ Hid (R = (l.drop k).all plainS)) (fun i => l.length - (intOf i).toNat)
  case atStart => exact ⟨0, rfl, Nat.zero_le _, HR.out⟩
  case round =>
    obtain ⟨k, rfl, hk, hr⟩ := hrel
    clear HR
    by_cases hlt : k < l.length
    · obtain ⟨ad, rfl, cx⟩ := H.out k hlt
      have hr1 := hr.out
      rw [List.drop_eq_getElem_cons hlt, List.all_cons] at hr1
      have hsz := HS.out _ (List.getElem_mem hlt)
      generalize l[k] = x at *
      clear hr
      by_cases c1 : x.size ≤ 300
      · have hp : plainS x = x.data.toList.all (fun b => decide (b.toNat ≠ 0)) := by unfold plainS; rw [decide_eq_true c1, Bool.true_and]
        rw [hp] at hr1
        have HI := Lib.hid (show R = ((x.data.toList.drop 0).all (fun b => decide (b.toNat ≠ 0)) && (l.drop (k + 1)).all plainS) from hr1)
        clear hp hr1
        go_wp2
        go_loop [5] (fun i => ∃ m : Nat, i = .int .i64 m ∧ m ≤ x.size ∧ Hid (R = ((x.data.toList.drop m).all (fun b => decide (b.toNat ≠ 0)) && (l.drop (k + 1)).all plainS))) (fun i => x.size - (intOf i).toNat)
        case atStart => exact ⟨0, rfl, Nat.zero_le _, HI.out⟩
        case round =>
          obtain ⟨m, rfl, hm, hi⟩ := hrel
          clear HI
          by_cases hmt : m < x.size
          · have hr2 := hi.out
            rw [drop_bytes x m hmt, List.all_cons] at hr2
            have u1 := (x[m]).toNat_lt
            clear hi
            by_cases c2 : x[m].toNat = 0
            · have c2' : ((x[m].toNat : Int) == 0) = true := ib_eq (by omega)
              rw [decide_eq_false (fun h => h c2), Bool.false_and, Bool.false_and] at hr2
              subst hr2
              clear c2
              go_wp2
              go_ret
              exact ⟨rfl, rfl⟩
            · have c2' : ((x[m].toNat : Int) == 0) = false := ib_ne (by omega)
              rw [decide_eq_true c2, Bool.true_and] at hr2
              have HI2 := Lib.hid hr2
              clear hr2 c2
              go_wp2
              go_round
              case rel => exact ⟨m + 1, by go_num, by omega, HI2.out⟩
              case measure => simp only [intOf]; omega
          · obtain rfl : m = x.size := by omega
            have hr2 := hi.out
            rw [List.drop_eq_nil_of_le (by simp), List.all_nil, Bool.true_and] at hr2
            have HI2 := Lib.hid hr2
            clear hr2 hi
            go_wp2
            go_round
            case rel => exact ⟨k + 1, by go_num, by omega, HI2.out⟩
            case measure => simp only [intOf]; omega
      · have hp : plainS x = false := by unfold plainS; rw [decide_eq_false c1]; rfl
        rw [hp, Bool.false_and] at hr1
        subst hr1
        clear hp
        go_wp2
        go_ret
        exact ⟨rfl, rfl⟩
    · obtain rfl : k = l.length := by omega
      have hr1 := hr.out
      rw [List.drop_length] at hr1
      simp only [List.all_nil] at hr1
      subst hr1
      clear hr
      go_wp2
      go_ret
      exact ⟨rfl, rfl⟩
set_option maxRecDepth 100000 in
/-- Texts of which none is too long for the laws. -/
theorem fits4_calls (A : Option Addr) (l : List ByteArray) (c : Nat) (w : World) (h : ∀ k, (hk : k < l.length) → ∃ ad, A = some ad ∧ w.cell? (ad.add k) = some (.string l[k])) (hl : l.length ≤ 9000000000000000000) (hs : ∀ x ∈ l, x.size ≤ 9000000000000000000) :
    Calls Tryz.prog 11 #[.slice A l.length c] w fun e w' => ∃ b, e = .returned (.bool b) ∧ w = w' ∧ (b = true → l.length ≤ 2147483647 ∧ ∀ x ∈ l, x.size ≤ 2147483647) := by
  by_cases h0 : l.length ≤ 2147483647
  case neg =>
    clear h hs
    go_enter Tryz.func11, Tryz.ntmps11
    go_wp2
    go_ret
    exact ⟨_, rfl, rfl, fun h => by cases h⟩
  have H := Lib.hid h
  have HS := Lib.hid hs
  clear h hs
  go_enter Tryz.func11, Tryz.ntmps11
  go_wp2
  go_loop [10] (fun i => ∃ k : Nat, i = .int .i64 k ∧ k ≤ l.length ∧ Hid (∀ x ∈ l.take k, x.size ≤ 2147483647)) (fun i => l.length - (intOf i).toNat)
  case atStart => exact ⟨0, rfl, Nat.zero_le _, fun x hx => by simp at hx⟩
  case round =>
    obtain ⟨k, rfl, hk, hr⟩ := hrel
    by_cases hlt : k < l.length
    · obtain ⟨ad, rfl, cx⟩ := H.out k hlt
      have hsz := HS.out _ (List.getElem_mem hlt)
      have hr1 := hr.out
      have hr3 : l[k].size ≤ 2147483647 → Hid (∀ x ∈ l.take (k + 1), x.size ≤ 2147483647) := fun hq x hx => by
        rw [List.take_succ_eq_append_getElem hlt] at hx
        rcases List.mem_append.1 hx with hx | hx
        · exact hr1 x hx
        · simp only [List.mem_singleton] at hx; subst hx; exact hq
      have HR3 := Lib.hid hr3
      clear hr hr1 hr3
      generalize l[k] = x at *
      by_cases c1 : x.size ≤ 2147483647
      · have HR4 := HR3.out c1
        clear HR3
        go_wp2
        go_round
        case rel => exact ⟨k + 1, by go_num, by omega, HR4⟩
        case measure => simp only [intOf]; omega
      · clear HR3
        go_wp2
        go_ret
        exact .inl ⟨rfl, rfl⟩
    · obtain rfl : k = l.length := by omega
      have hr1 := hr.out
      rw [List.take_length] at hr1
      have HR1 := Lib.hid hr1
      clear hr hr1
      go_wp2
      go_ret
      exact .inr ⟨rfl, rfl, HR1.out⟩
end Go.Proofs.YtblabjfjhlablaaGreatDoor
