/- The walk of domainNameValid: labels of visible bytes with single dots between. -/
import Derived.Test.YtblabjfjhlablaaGreatDoorW7
namespace Go.Proofs.YtblabjfjhlablaaGreatDoor
open Go.RowKit Nc
/-- Labels of visible bytes with single dots between; 'pd': a dot (or the beginning) stands right ahead. -/
def dnvGo : Bool → List UInt8 → Bool
  | pd, [] => !pd
  | pd, c :: l => if c.toNat < 33 || 126 < c.toNat then false else if c.toNat = 46 then (if pd then false else dnvGo true l) else dnvGo false l
def dnv (s : ByteArray) : Bool := if s.size = 0 then true else dnvGo true s.data.toList
theorem drop_bytes (s : ByteArray) (k : Nat) (h : k < s.size) : s.data.toList.drop k = s[k] :: s.data.toList.drop (k + 1) := by
  rw [List.drop_eq_getElem_cons (by simpa using h)]; rfl
theorem dnvGo_last : ∀ (l : List UInt8) (pd : Bool) (c : UInt8), c.toNat = 46 → dnvGo pd (l ++ [c]) = false
  | [], pd, c, h => by cases pd <;> simp [dnvGo, h]
  | b :: l, pd, c, h => by
    simp only [List.cons_append, dnvGo]
    rw [dnvGo_last l true c h, dnvGo_last l false c h]
    simp
theorem dnv_last (s : ByteArray) (h : 0 < s.size) (hd : s[s.size - 1].toNat = 46) : dnvGo true s.data.toList = false := by
  have e : s.data.toList = s.data.toList.take (s.size - 1) ++ [s[s.size - 1]] := by
    have h1 := List.take_append_drop (s.size - 1) s.data.toList
    rw [drop_bytes s (s.size - 1) (by omega), show s.size - 1 + 1 = s.data.toList.length by have : s.data.toList.length = s.size := rfl; omega, List.drop_length] at h1
    exact h1.symm
  rw [e]
  exact dnvGo_last _ _ _ hd
set_option maxRecDepth 100000 in
set_option maxHeartbeats 1000000 in
theorem dnv_calls (s : ByteArray) (w : World) (hs : s.size ≤ 4611686018427387904) :
    Calls Tryz.prog 107 #[.string s, .bool false] w fun e w' => e = .returned (.bool (dnv s)) ∧ w = w' := by
  by_cases h0 : s.size = 0
  · have hR : dnv s = true := by unfold dnv; rw [if_pos h0]
    rw [hR]
    have hz : ((s.size : Int) == 0) = true := ib_eq (by omega)
    go_enter Tryz.func107, Tryz.ntmps107
    go_wp2
    go_ret
    exact ⟨rfl, rfl⟩
  · have hR : dnv s = dnvGo true s.data.toList := by unfold dnv; rw [if_neg h0]
    rw [hR]
    have hp : 0 < s.size := by omega
    have hz : ((s.size : Int) == 0) = false := ib_ne (by omega)
    have hl1 : s.size - 1 < s.size := by omega
    by_cases hd : s[s.size - 1].toNat = 46
    · rw [dnv_last s hp hd]
      have hd' : ((s[s.size - 1].toNat : Int) == 46) = true := ib_eq (by omega)
      clear hd hR
      go_enter Tryz.func107, Tryz.ntmps107
      go_wp2
      go_ret
      exact ⟨rfl, rfl⟩
    · have hd' : ((s[s.size - 1].toNat : Int) == 46) = false := ib_ne (by omega)
      have H0 := Lib.hid (show dnvGo true (s.data.toList.drop 0) = dnvGo true s.data.toList from rfl)
      generalize dnvGo true s.data.toList = R at *
      clear hd hR
      go_enter Tryz.func107, Tryz.ntmps107
      go_wp2
      go_loop [5, 6] (fun d i => ∃ (k : Nat) (ld : Int), i = .int .i64 k ∧ d = .int .i64 ld ∧ -1 ≤ ld ∧ ld < k ∧ k ≤ s.size + 1 ∧ Hid (if k ≤ s.size then dnvGo (decide (ld + 1 = k)) (s.data.toList.drop k) = R else R = true)) (fun _ i => s.size + 1 - (intOf i).toNat)
      case atStart => exact ⟨0, -1, rfl, rfl, by omega, by omega, by omega, by rw [if_pos (Nat.zero_le _)]; exact H0.out⟩
      case round =>
        obtain ⟨k, ld, rfl, rfl, hl, hlk, hk, hrel⟩ := hrel
        clear H0
        by_cases hlt : k < s.size
        · have hr := hrel.out
          rw [if_pos (by omega), drop_bytes s k hlt, dnvGo] at hr
          have u1 := (s[k]).toNat_lt
          have hne : ((k : Int) == (s.size : Int)) = false := ib_ne (by omega)
          clear hrel
          by_cases c1 : s[k].toNat < 33
          · rw [if_pos (by simp [c1])] at hr
            subst hr
            go_wp2
            go_ret
            exact ⟨rfl, rfl⟩
          · by_cases c2 : 126 < s[k].toNat
            · rw [if_pos (by simp [c2])] at hr
              subst hr
              go_wp2
              go_ret
              exact ⟨rfl, rfl⟩
            · rw [if_neg (by simp [c1, c2])] at hr
              by_cases c3 : s[k].toNat = 46
              · rw [if_pos c3] at hr
                have c3' : ((s[k].toNat : Int) == 46) = true := ib_eq (by omega)
                clear c3
                by_cases c4 : ld + 1 = k
                · rw [decide_eq_true c4, if_pos rfl] at hr
                  subst hr
                  by_cases c5 : 0 ≤ ld
                  · have c6 : ((k : Int) - (ld + 1) == 0) = true := ib_eq (by omega)
                    have C4 := Lib.hid c4
                    clear c4
                    go_wp2
                    go_ret
                    exact ⟨rfl, rfl⟩
                  · obtain rfl : k = 0 := by omega
                    clear c4
                    go_wp2
                    go_ret
                    exact ⟨rfl, rfl⟩
                · rw [decide_eq_false c4, if_neg (by decide)] at hr
                  have hr2 : Hid (if k + 1 ≤ s.size then dnvGo (decide ((k : Int) + 1 = ((k + 1 : Nat) : Int))) (s.data.toList.drop (k + 1)) = R else R = true) := by
                    rw [if_pos (by omega), decide_eq_true (by omega)]; exact hr
                  clear hr
                  by_cases c5 : 0 ≤ ld
                  · have c6 : ((k : Int) - (ld + 1) == 0) = false := ib_ne (by omega)
                    clear c4
                    go_wp2
                    go_round
                    case rel => exact ⟨k + 1, k, by go_num, rfl, by omega, by omega, by omega, hr2⟩
                    case measure => simp only [intOf]; omega
                  · have c6 : ((k : Int) == 0) = false := ib_ne (by omega)
                    clear c4
                    go_wp2
                    go_round
                    case rel => exact ⟨k + 1, k, by go_num, rfl, by omega, by omega, by omega, hr2⟩
                    case measure => simp only [intOf]; omega
              · rw [if_neg c3] at hr
                have c3' : ((s[k].toNat : Int) == 46) = false := ib_ne (by omega)
                have hr2 : Hid (if k + 1 ≤ s.size then dnvGo (decide (ld + 1 = ((k + 1 : Nat) : Int))) (s.data.toList.drop (k + 1)) = R else R = true) := by
                  rw [if_pos (by omega), decide_eq_false (by omega)]; exact hr
                clear hr c3
                go_wp2
                go_round
                case rel => exact ⟨k + 1, ld, by go_num, rfl, hl, by omega, by omega, hr2⟩
                case measure => simp only [intOf]; omega
        · by_cases hke : k = s.size
          · subst hke
            have hr := hrel.out
            have e2 : s.data.toList.length = s.size := rfl
            rw [if_pos (Nat.le_refl _), ← e2, List.drop_length, e2, dnvGo] at hr
            have hne : ((s.size : Int) == (s.size : Int)) = true := ib_eq rfl
            clear hrel e2
            by_cases c4 : ld + 1 = s.size
            · rw [decide_eq_true c4] at hr
              subst hr
              by_cases c5 : 0 ≤ ld
              · have c6 : ((s.size : Int) - (ld + 1) == 0) = true := ib_eq (by omega)
                have C4 := Lib.hid c4
                clear c4
                go_wp2
                go_ret
                exact ⟨rfl, rfl⟩
              · omega
            · rw [decide_eq_false c4] at hr
              have hr2 : Hid (if s.size + 1 ≤ s.size then dnvGo (decide ((s.size : Int) + 1 = ((s.size + 1 : Nat) : Int))) (s.data.toList.drop (s.size + 1)) = R else R = true) := by
                rw [if_neg (by omega)]; exact hr.symm
              clear hr
              by_cases c5 : 0 ≤ ld
              · have c6 : ((s.size : Int) - (ld + 1) == 0) = false := ib_ne (by omega)
                clear c4
                go_wp2
                go_round
                case rel => exact ⟨s.size + 1, s.size, by go_num, rfl, by omega, by omega, by omega, hr2⟩
                case measure => simp only [intOf]; omega
              · clear c4
                go_wp2
                go_round
                case rel => exact ⟨s.size + 1, s.size, by go_num, rfl, by omega, by omega, by omega, hr2⟩
                case measure => simp only [intOf]; omega
          · obtain rfl : k = s.size + 1 := by omega
            have hr := hrel.out
            rw [if_neg (by omega)] at hr
            subst hr
            clear hrel
            go_wp2
            go_ret
            exact ⟨rfl, rfl⟩
end Go.Proofs.YtblabjfjhlablaaGreatDoor
