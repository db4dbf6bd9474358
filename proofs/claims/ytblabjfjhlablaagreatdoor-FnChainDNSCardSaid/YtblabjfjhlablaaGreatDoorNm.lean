/- The walk of domainNameValid: labels of visible bytes with single dots between. -/
import Derived.Test.YtblabjfjhlablaaGreatDoorW7
namespace Go.Proofs.YtblabjfjhlablaaGreatDoor
open Go.RowKit Nc
/-- Labels of visible bytes with single dots between; 'pd': a dot (or the beginning) stands right ahead. -/
def dnvGo : Bool → List UInt8 → Bool
  | pd, [] => !pd
  | pd, c :: l => if c.toNat < 33 || 126 < c.toNat then false else if c.toNat = 46 then (if pd then false else dnvGo true l) else dnvGo false l
def dnv (s : ByteArray) : Bool := if s.size = 0 then true else dnvGo true s.data.toList
theorem drop_bytes (s : ByteArray) (k : Nat) (h : k < s.size) : s.data.toList.drop k = s[k] :: s.data.toList.drop (k + 1) := by
  rw [List.drop_eq_getElem_cons (by simpa using h)]; rfl
theorem dnvGo_last : ∀ (l : List UInt8) (pd : Bool) (c : UInt8), c.toNat = 46 → dnvGo pd (l ++ [c]) = false
  | [], pd, c, h => by cases pd <;> simp [dnvGo, h]
  | b :: l, pd, c, h => by
    simp only [List.cons_append, dnvGo]
    rw [dnvGo_last l true c h, dnvGo_last l false c h]
    simp
theorem dnv_last (s : ByteArray) (h : 0 < s.size) (hd : s[s.size - 1].toNat = 46) : dnvGo true s.data.toList = false := by
  have e : s.data.toList = s.data.toList.take (s.size - 1) ++ [s[s.size - 1]] := by
    have h1 := List.take_append_drop (s.size - 1) s.data.toList
    rw [drop_bytes s (s.size - 1) (by omega), show s.size - 1 + 1 = s.data.toList.length by have : s.data.toList.length = s.size := rfl; omega, List.drop_length] at h1
    exact h1.symm
  rw [e]
  exact dnvGo_last _ _ _ hd
set_option maxRecDepth 100000 in
set_option maxHeartbeats 1000000 in
theorem dnv_calls (s : ByteArray) (w : World) (hs : s.size ≤ 4611686018427387904) :
    Calls Tryz.prog 107 #[.string s, .bool false] w fun e w' => e = .returned (.bool (dnv s)) ∧ w = w' := by
  by_cases h0 : s.size = 0
  · have hR : dnv s = true := by unfold dnv; rw [if_pos h0]
    rw [hR]
    have hz : ((s.size : Int) == 0) = true := ib_eq (by omega)
    go_enter Tryz.func107, Tryz.ntmps107
    go_wp2
    go_ret
    exact ⟨rfl, rfl⟩
  · have hR : dnv s = dnvGo true s.data.toList := by unfold dnv; rw [if_neg h0]
    rw [hR]
    have hp : 0 < s.size := by omega
    have hz : ((s.size : Int) == 0) = false := ib_ne (by omega)
    have hl1 : s.size - 1 < s.size := by omega
    by_cases hd : s[s.size - 1].toNat = 46
    · rw [dnv_last s hp hd]
      have hd' : ((s[s.size - 1].toNat : Int) == 46) = true := ib_eq (by omega)
      clear hd hR
      go_enter Tryz.func107, Tryz.ntmps107
      go_wp2
      go_ret
      exact ⟨rfl, rfl⟩
    · have hd' : ((s[s.size - 1].toNat : Int) == 46) = false := ib_ne (by omega)
      have H0 := Lib.hid (show dnvGo true (s.data.toList.drop 0) = dnvGo true s.data.toList from rfl)
      generalize dnvGo true s.data.toList = R at *
      clear hd hR
      go_enter Tryz.func107, Tryz.ntmps107
      go_wp2
      go_loop [5, 6] (fun d i => ∃ (k : Nat) (ld : Int), i = .int .i64 k ∧ d = .int .i64 ld ∧ -1 ≤ ld ∧ ld < k ∧ k ≤ s.size + 1 ∧ Hid (if k ≤ s.size then dnvGo (decide (ld + 1 = k)) (s.data.toList.drop k) = R else R = true)) (fun _ i => s.size + 1 - (intOf i).toNat)
      case atStart => exact ⟨0, -1, rfl, rfl, by omega, by omega, by omega, by rw [if_pos (Nat.zero_le _)]; exact H0.out⟩
      case round =>
        obtain ⟨k, ld, rfl, rfl, hl, hlk, hk, hrel⟩ := hrel
        clear H0
        by_cases hlt : k < s.size
        · have hr := hrel.out
          rw [if_pos (by omega), drop_bytes s k hlt, dnvGo] at hr
          have u1 := (s[k]).toNat_lt
          have hne : ((k : Int) == (s.size : Int)) = false := ib_ne (by omega)
          clear hrel
          by_cases c1 : s[k].toNat < 33
          · rw [if_pos (by simp [c1])] at hr
            subst hr
            go_wp2
            go_ret
            exact ⟨rfl, rfl⟩
          · by_cases c2 : 126 < s[k].toNat
            · rw [if_pos (by simp [c2])] at hr
              subst hr
              go_wp2
              go_ret
              exact ⟨rfl, rfl⟩
            · rw [if_neg (by simp [c1, c2])] at hr
              by_cases c3 : s[k].toNat = 46
              · rw [if_pos c3] at hr
                have c3' : ((s[k].toNat : Int) == 46) = true := ib_eq (by omega)
                clear c3
                by_cases c4 : ld + 1 = k
                · rw [decide_eq_true c4, if_pos rfl] at hr
                  subst hr
                  by_cases c5 : 0 ≤ ld
                  · have c6 : ((k : Int) - (ld + 1) == 0) = true := ib_eq (by omega)
                    have C4 := Lib.hid c4
                    clear c4
                    go_wp2
                    go_ret
                    exact ⟨rfl, rfl⟩
                  · obtain rfl : k = 0 := by omega
                    clear c4
                    go_wp2
                    go_ret
                    exact ⟨rfl, rfl⟩
                · rw [decide_eq_false c4, if_neg (by decide)] at hr
                  have hr2 : Hid (if k + 1 ≤ s.size then dnvGo (decide ((k : Int) + 1 = ((k + 1 : Nat) : Int))) (s.data.toList.drop (k + 1)) = R else R = true) := by
                    rw [if_pos (by omega), decide_eq_true (by omega)]; exact hr
                  clear hr
                  by_cases c5 : 0 ≤ ld
                  · have c6 : ((k : Int) - (ld + 1) == 0) = false := ib_ne (by omega)
                    clear c4
                    go_wp2
                    go_round
                    case rel => exact ⟨k + 1, k, by go_num, rfl, by omega, by omega, by omega, hr2⟩
                    case measure => simp only [intOf]; omega
                  · have c6 : ((k : Int) == 0) = false := ib_ne (by omega)
                    clear c4
                    go_wp2
                    go_round
                    case rel => exact ⟨k + 1, k, by go_num, rfl, by omega, by omega, by omega, hr2⟩
                    case measure => simp only [intOf]; omega
              · rw [if_neg c3] at hr
                have c3' : ((s[k].toNat : Int) == 46) = false := ib_ne (by omega)
                have hr2 : Hid (if k + 1 ≤ s.size then dnvGo (decide (ld + 1 = ((k + 1 : Nat) : Int))) (s.data.toList.drop (k + 1)) = R else R = true) := by
                  rw [if_pos (by omega), decide_eq_false (by omega)]; exact hr
                clear hr c3
                go_wp2
                go_round
                case rel => exact ⟨k + 1, ld, by go_num, rfl, hl, by omega, by omega, hr2⟩
                case measure => simp only [intOf]; omega
        · by_cases hke : k = s.size
          · subst hke
            have hr := hrel.out
            have e2 : s.data.toList.length = s.size := rfl
            rw [if_pos (Nat.le_refl _), ← e2, List.drop_length, e2, dnvGo] at hr
            have hne : ((s.size : Int) == (s.size : Int)) = true := ib_eq rfl
            clear hrel e2
            by_cases c4 : ld + 1 = s.size
            · rw [decide_eq_true c4] at hr
              subst hr
              by_cases c5 : 0 ≤ ld
              · have c6 : ((s.size : Int) - (ld + 1) == 0) = true := ib_eq (by omega)
                have C4 := Lib.hid c4
                clear c4
                go_wp2
                go_ret
                exact ⟨rfl, rfl⟩
              · omega
            · rw [decide_eq_false c4] at hr
              have hr2 : Hid (if s.size + 1 ≤ s.size then dnvGo (decide ((s.size : Int) + 1 = ((s.size + 1 : Nat) : Int))) (s.data.toList.drop (s.size + 1)) = R else R = true) := by
                rw [if_neg (by omega)]; exact hr.symm
              clear hr
              by_cases c5 : 0 ≤ ld
              · have c6 : ((s.size : Int) - (ld + 1) == 0) = false := ib_ne (by omega)
                clear c4
                go_wp2
                go_round
                case rel => exact ⟨s.size + 1, s.size, by go_num, rfl, by omega, by omega, by omega, hr2⟩
                case measure => simp only [intOf]; omega
              · clear c4
                go_wp2
                go_round
                case rel => exact ⟨s.size + 1, s.size, by go_num, rfl, by omega, by omega, by omega, hr2⟩
                case measure => simp only [intOf]; omega
          · obtain rfl : k = s.size + 1 := by omega
            have hr := hrel.out
            rw [if_neg (by omega)] at hr
            subst hr
            clear hrel
            go_wp2
            go_ret
            exact ⟨rfl, rfl⟩
end Go.Proofs.YtblabjfjhlablaaGreatDoor
/- Names of hosts in plain Lean: labels, and what a name is fit for. -/
namespace Go.Proofs.YtblabjfjhlablaaGreatDoor
open Nc
/-- The labels from place i on, the one at hand begun at 'fr'. -/
def cuts (s : ByteArray) (fr i : Nat) : List ByteArray :=
  if h : i < s.size then (if s[i].toNat = 46 then s.extract fr i :: cuts s (i + 1) (i + 1) else cuts s fr (i + 1)) else [s.extract fr s.size]
termination_by s.size - i
def okByte (b : UInt8) : Bool := let c := (low b).toNat; (decide (97 ≤ c) && decide (c ≤ 122)) || (decide (48 ≤ c) && decide (c ≤ 57)) || decide (c = 45)
def labelB (x : ByteArray) : Bool :=
  if h : 1 ≤ x.size ∧ x.size ≤ 63 then decide (x[0].toNat ≠ 45) && decide (x[x.size - 1].toNat ≠ 45) && x.data.toList.all okByte else false
def alphaB (x : ByteArray) : Bool := if h : 0 < x.size then decide (97 ≤ (low x[0]).toNat ∧ (low x[0]).toNat ≤ 122) else false
def nameB (s : ByteArray) : Bool := (cuts s 0 0).all labelB && decide (s.size ≤ 200) && alphaB ((cuts s 0 0).getLastD ByteArray.empty)
theorem cuts_ne (s : ByteArray) : ∀ (m fr i : Nat), s.size - i = m → cuts s fr i ≠ [] := by
  intro m
  induction m with
  | zero => intro fr i h; rw [cuts, dif_neg (by omega)]; simp
  | succ m ih =>
    intro fr i h
    rw [cuts, dif_pos (by omega)]
    split
    · simp
    · exact ih fr (i + 1) (by omega)
theorem cuts_head (s : ByteArray) : ∀ (m fr i : Nat), s.size - i = m → i ≤ s.size → ∃ e rest, cuts s fr i = s.extract fr e :: rest ∧ i ≤ e ∧ e ≤ s.size := by
  intro m
  induction m with
  | zero => intro fr i h hi; rw [cuts, dif_neg (by omega)]; exact ⟨s.size, [], rfl, hi, Nat.le_refl _⟩
  | succ m ih =>
    intro fr i h hi
    rw [cuts, dif_pos (by omega)]
    split
    · exact ⟨i, _, rfl, Nat.le_refl _, hi⟩
    · obtain ⟨e, rest, h1, h2, h3⟩ := ih fr (i + 1) (by omega) (by omega)
      exact ⟨e, rest, h1, by omega, h3⟩
theorem labelB_size {x : ByteArray} (h : labelB x = true) : 1 ≤ x.size ∧ x.size ≤ 63 := by
  unfold labelB at h
  split at h
  · assumption
  · cases h
theorem labelB_byte {x : ByteArray} (h : labelB x = true) (j : Nat) (hj : j < x.size) : okByte x[j] = true := by
  have hs := labelB_size h
  unfold labelB at h
  rw [dif_pos hs] at h
  simp only [Bool.and_eq_true, List.all_eq_true] at h
  exact h.2 _ (List.getElem_mem (l := x.data.toList) (n := j) (by simpa using hj))
theorem cut_size (s : ByteArray) (fr e : Nat) (he : e ≤ s.size) : (s.extract fr e).size = e - fr := by simp; omega
theorem cuts_byte (s : ByteArray) (fr i j : Nat) (hi : i ≤ s.size) (h : (cuts s fr i).all labelB = true) (h1 : fr ≤ j) (h2 : j < i) : okByte (s[j]'(by omega)) = true := by
  obtain ⟨e, rest, hc, hie, hes⟩ := cuts_head s _ fr i rfl hi
  rw [hc] at h
  simp only [List.all_cons, Bool.and_eq_true] at h
  have hsz := cut_size s fr e hes
  have := labelB_byte h.1 (j - fr) (by omega)
  rw [ByteArray.getElem_extract] at this
  simpa [show fr + (j - fr) = j by omega] using this
theorem ok_visible : ∀ b : UInt8, okByte b = true → 33 ≤ b.toNat ∧ b.toNat ≤ 126 ∧ b.toNat ≠ 46 ∧ b.toNat ≠ 42 := forall_u8 _ (by decide +kernel)
theorem cuts_dnv (s : ByteArray) : ∀ (m fr i : Nat), s.size - i = m → fr ≤ i → i ≤ s.size → (cuts s fr i).all labelB = true → dnvGo (decide (fr = i)) (s.data.toList.drop i) = true := by
  intro m
  induction m with
  | zero =>
    intro fr i hm hfi hi h
    obtain rfl : i = s.size := by omega
    rw [cuts, dif_neg (by omega)] at h
    simp only [List.all_cons, List.all_nil, Bool.and_true] at h
    have := labelB_size h
    rw [cut_size s fr _ (Nat.le_refl _)] at this
    rw [decide_eq_false (by omega), List.drop_eq_nil_of_le (by simp), dnvGo]
    rfl
  | succ m ih =>
    intro fr i hm hfi hi h
    have hlt : i < s.size := by omega
    rw [drop_bytes s i hlt]
    have h0 := h
    rw [cuts, dif_pos hlt] at h
    by_cases hd : s[i].toNat = 46
    · rw [if_pos hd] at h
      simp only [List.all_cons, Bool.and_eq_true] at h
      have h1 := labelB_size h.1
      rw [cut_size s fr i (by omega)] at h1
      have h2 := ih (i + 1) (i + 1) (by omega) (Nat.le_refl _) (by omega) h.2
      rw [decide_eq_true rfl] at h2
      have hf : decide (fr = i) = false := decide_eq_false (by omega)
      rw [hf, dnvGo, if_neg (by simp; omega), if_pos hd, if_neg (by decide)]
      exact h2
    · rw [if_neg hd] at h
      have hb := ok_visible _ (cuts_byte s fr (i + 1) i (by omega) h hfi (by omega))
      have h2 := ih fr (i + 1) (by omega) (by omega) (by omega) h
      have hf : decide (fr = i + 1) = false := decide_eq_false (by omega)
      rw [hf] at h2
      rw [dnvGo, if_neg (by simp; omega), if_neg hd]
      exact h2
theorem dnvGo_visible : ∀ (l : List UInt8) (pd : Bool), dnvGo pd l = true → ∀ b ∈ l, 33 ≤ b.toNat
  | [], _, _, b, hb => by simp at hb
  | c :: l, pd, h, b, hb => by
    rw [dnvGo] at h
    split at h
    · cases h
    · rename_i hv
      rcases List.mem_cons.1 hb with rfl | hb
      · simp at hv; omega
      · split at h
        · split at h
          · cases h
          · exact dnvGo_visible l _ h b hb
        · exact dnvGo_visible l _ h b hb
structure NameFacts (s : ByteArray) : Prop where
  pos : 0 < s.size
  size : s.size ≤ 200
  noz : NoZ s.data.toList
  star : NoStar s
  valid : dnv s = true
theorem nameB_facts (s : ByteArray) (h : nameB s = true) : NameFacts s := by
  unfold nameB at h
  simp only [Bool.and_eq_true, decide_eq_true_eq] at h
  obtain ⟨⟨h1, h2⟩, _⟩ := h
  have hpos : 0 < s.size := by
    rcases Nat.eq_zero_or_pos s.size with h0 | h0
    · rw [cuts, dif_neg (by omega)] at h1
      simp only [List.all_cons, List.all_nil, Bool.and_true] at h1
      have := labelB_size h1
      rw [cut_size s 0 _ (Nat.le_refl _)] at this
      omega
    · exact h0
  have hv := cuts_dnv s _ 0 0 rfl (Nat.le_refl _) (Nat.zero_le _) h1
  rw [decide_eq_true rfl, List.drop_zero] at hv
  refine ⟨hpos, h2, ?_, ?_, ?_⟩
  · intro b hb e
    have := dnvGo_visible _ _ hv b hb
    subst e
    exact absurd this (by decide)
  · intro _ hs
    have h0 := h1
    rw [cuts, dif_pos hpos, if_neg (by omega)] at h0
    exact (ok_visible _ (cuts_byte s 0 1 0 (by omega) h0 (Nat.le_refl _) (by omega))).2.2.2 hs
  · unfold dnv
    rw [if_neg (by omega)]
    exact hv
end Go.Proofs.YtblabjfjhlablaaGreatDoor
