/- Plain laws of networks: those in ascending order are laminar, so a search in the pruned list finds just what some network holds. -/
import Derived.Test.YtblabjfjhlablaaGreatDoorNc
namespace Go.Proofs.YtblabjfjhlablaaGreatDoor.Nc

def isPart (m : UInt8) : Bool := m == 0 || m == 128 || m == 192 || m == 224 || m == 240 || m == 248 || m == 252 || m == 254
/-- Ones, and then noughts. -/
def pm : List UInt8 → Bool
  | [] => true
  | m :: r => if m = 255 then pm r else isPart m && r.all (· == 0)
/-- Bytes compared from their beginning. -/
def cmpL : List UInt8 → List UInt8 → Int
  | [], [] => 0
  | [], _ :: _ => -1
  | _ :: _, [] => 1
  | x :: xs, y :: ys => if x = y then cmpL xs ys else if x < y then -1 else 1
/-- The address s lies in the network of A and M. -/
def inN : List UInt8 → List UInt8 → List UInt8 → Bool
  | a :: A, m :: M, s :: S => (a &&& m == s &&& m) && inN A M S
  | [], [], [] => true
  | _, _, _ => false
def bcast (A M : List UInt8) : List UInt8 := List.zipWith (fun a m => a ||| ~~~m) A M
/-- The address has noughts where the mask has them. -/
def maskedB : List UInt8 → List UInt8 → Bool
  | a :: A, m :: M => (a &&& m == a) && maskedB A M
  | [], [] => true
  | _, _ => false

theorem cmpL_refl : ∀ x : List UInt8, cmpL x x = 0
  | [] => rfl
  | x :: xs => by unfold cmpL; rw [if_pos rfl]; exact cmpL_refl xs
theorem cmpL_swap : ∀ x y : List UInt8, cmpL y x = - cmpL x y
  | [], [] => rfl
  | [], _ :: _ => rfl
  | _ :: _, [] => rfl
  | x :: xs, y :: ys => by
    unfold cmpL
    by_cases h : x = y
    · rw [if_pos h, if_pos h.symm]; exact cmpL_swap xs ys
    · rw [if_neg h, if_neg (fun e => h e.symm)]
      by_cases h2 : x < y
      · rw [if_pos h2, if_neg]
        · rfl
        · rw [UInt8.lt_iff_toNat_lt] at *; omega
      · rw [if_neg h2, if_pos (lt_of_ne h h2)]
theorem cmpL_eq : ∀ x y : List UInt8, cmpL x y = 0 → x = y
  | [], [], _ => rfl
  | [], _ :: _, h => by simp [cmpL] at h
  | _ :: _, [], h => by simp [cmpL] at h
  | x :: xs, y :: ys, h => by
    unfold cmpL at h
    by_cases a : x = y
    · rw [if_pos a] at h; rw [a, cmpL_eq xs ys h]
    · rw [if_neg a] at h; split at h <;> simp at h
theorem cmpL_trans : ∀ x y z : List UInt8, cmpL x y ≤ 0 → cmpL y z ≤ 0 → cmpL x z ≤ 0
  | [], [], _, _, h2 => h2
  | [], _ :: _, [], _, h2 => by simp [cmpL] at h2
  | [], _ :: _, _ :: _, _, _ => by simp [cmpL]
  | _ :: _, [], _, h1, _ => by simp [cmpL] at h1
  | _ :: _, _ :: _, [], _, h2 => by simp [cmpL] at h2
  | x :: xs, y :: ys, z :: zs, h1, h2 => by
    unfold cmpL at h1 h2 ⊢
    by_cases a : x = y
    · rw [if_pos a] at h1
      rw [a]
      by_cases b : y = z
      · rw [if_pos b] at h2 ⊢
        exact cmpL_trans xs ys zs h1 h2
      · rw [if_neg b] at h2 ⊢; exact h2
    · rw [if_neg a] at h1
      by_cases c : x < y
      · by_cases b : y = z
        · rw [← b, if_neg a, if_pos c]; decide
        · rw [if_neg b] at h2
          by_cases d : y < z
          · have h3 : x < z := by rw [UInt8.lt_iff_toNat_lt] at *; omega
            have hne : x ≠ z := by intro e; rw [e, UInt8.lt_iff_toNat_lt] at h3; omega
            rw [if_neg hne, if_pos h3]; decide
          · rw [if_neg d] at h2; simp at h2
      · rw [if_neg c] at h1; simp at h1

theorem and_le8 (s m : UInt8) : s &&& m ≤ s := by
  rw [UInt8.le_iff_toNat_le, UInt8.toNat_and]; exact Nat.and_le_left
/-- F1: a network's own address is not behind what lies in it. -/
theorem inN_le : ∀ (A M S : List UInt8), maskedB A M = true → inN A M S = true → cmpL A S ≤ 0
  | a :: A, m :: M, s :: S, h1, h2 => by
    simp only [maskedB, inN, Bool.and_eq_true, beq_iff_eq] at h1 h2
    have hle : a ≤ s := by rw [← h1.1, h2.1]; exact and_le8 s m
    unfold cmpL
    by_cases e : a = s
    · rw [if_pos e]; exact inN_le A M S h1.2 h2.2
    · rw [if_neg e, if_pos]
      · decide
      · rw [UInt8.le_iff_toNat_le] at hle
        rw [UInt8.lt_iff_toNat_lt]
        have : a.toNat ≠ s.toNat := fun h => e (UInt8.toNat_inj.1 h)
        omega
  | [], [], [], _, _ => by decide
  | [], [], _ :: _, _, h => by simp [inN] at h
  | [], _ :: _, _, _, h => by cases ‹List UInt8› <;> simp [inN] at h
  | _ :: _, [], _, _, h => by simp [inN] at h
  | _ :: _, _ :: _, [], _, h => by simp [inN] at h
theorem inN_len : ∀ (A M S : List UInt8), inN A M S = true → A.length = S.length ∧ A.length = M.length
  | a :: A, m :: M, s :: S, h => by
    simp only [inN, Bool.and_eq_true] at h
    have := inN_len A M S h.2
    simp only [List.length_cons]; omega
  | [], [], [], _ => ⟨rfl, rfl⟩
  | [], [], _ :: _, h => by simp [inN] at h
  | [], _ :: _, S, h => by cases S <;> simp [inN] at h
  | _ :: _, [], _, h => by simp [inN] at h
  | _ :: _, _ :: _, [], h => by simp [inN] at h
theorem maskedB_len : ∀ (A M : List UInt8), maskedB A M = true → A.length = M.length
  | a :: A, m :: M, h => by
    simp only [maskedB, Bool.and_eq_true] at h
    simp [maskedB_len A M h.2]
  | [], [], _ => rfl
  | [], _ :: _, h => by simp [maskedB] at h
  | _ :: _, [], h => by simp [maskedB] at h
theorem inN_self : ∀ (A M : List UInt8), A.length = M.length → inN A M A = true
  | [], [], _ => rfl
  | a :: A, m :: M, h => by simp only [inN, beq_self_eq_true, Bool.true_and]; exact inN_self A M (by simpa using h)
theorem inN_zero : ∀ (A M S : List UInt8), M.all (· == 0) = true → A.length = M.length → A.length = S.length → inN A M S = true
  | [], [], [], _, _, _ => rfl
  | a :: A, m :: M, s :: S, h, h1, h2 => by
    simp only [List.all_cons, Bool.and_eq_true, beq_iff_eq] at h
    simp only [inN, h.1, UInt8.and_zero, beq_self_eq_true, Bool.true_and]
    exact inN_zero A M S h.2 (by simpa using h1) (by simpa using h2)
theorem masked_zero : ∀ (A M : List UInt8), M.all (· == 0) = true → maskedB A M = true → A.all (· == 0) = true
  | [], [], _, _ => rfl
  | a :: A, m :: M, h, h1 => by
    simp only [List.all_cons, Bool.and_eq_true, beq_iff_eq] at h
    simp only [maskedB, Bool.and_eq_true, beq_iff_eq, h.1, UInt8.and_zero] at h1
    simp only [List.all_cons, ← h1.1, beq_self_eq_true, Bool.true_and]
    exact masked_zero A M h.2 h1.2
  | [], _ :: _, _, h => by simp [maskedB] at h
  | _ :: _, [], _, h => by simp [maskedB] at h
theorem zeros_eq : ∀ (A B : List UInt8), A.all (· == 0) = true → B.all (· == 0) = true → A.length = B.length → A = B
  | [], [], _, _, _ => rfl
  | a :: A, b :: B, h1, h2, h => by
    simp only [List.all_cons, Bool.and_eq_true, beq_iff_eq] at h1 h2
    rw [h1.1, h2.1, zeros_eq A B h1.2 h2.2 (by simpa using h)]
theorem part_cases {m : UInt8} (h : isPart m = true) : m = 0 ∨ m = 128 ∨ m = 192 ∨ m = 224 ∨ m = 240 ∨ m = 248 ∨ m = 252 ∨ m = 254 := by
  simpa [isPart, or_assoc] using h
theorem div_and (c : Nat) (m : UInt8) (h : ∀ x : UInt8, (x &&& m).toNat = x.toNat / c * c) (hc : 0 < c) (a x s : UInt8) (h1 : a &&& m = s &&& m) (h2 : a ≤ x) (h3 : x ≤ s) : a &&& m = x &&& m := by
  apply UInt8.toNat_inj.1
  have e := congrArg UInt8.toNat h1
  rw [h, h] at e ⊢
  have e1 : a.toNat / c = s.toNat / c := Nat.eq_of_mul_eq_mul_right hc e
  rw [UInt8.le_iff_toNat_le] at h2 h3
  have e2 := Nat.div_le_div_right (c := c) h2
  have e3 := Nat.div_le_div_right (c := c) h3
  have e4 : a.toNat / c = x.toNat / c := by omega
  rw [e4]
theorem part_between {m : UInt8} (hm : isPart m = true) (a x s : UInt8) (h1 : a &&& m = s &&& m) (h2 : a ≤ x) (h3 : x ≤ s) : a &&& m = x &&& m := by
  rcases part_cases hm with rfl | rfl | rfl | rfl | rfl | rfl | rfl | rfl
  · simp
  · exact div_and 128 _ (forall_u8 _ (by decide +kernel)) (by decide) a x s h1 h2 h3
  · exact div_and 64 _ (forall_u8 _ (by decide +kernel)) (by decide) a x s h1 h2 h3
  · exact div_and 32 _ (forall_u8 _ (by decide +kernel)) (by decide) a x s h1 h2 h3
  · exact div_and 16 _ (forall_u8 _ (by decide +kernel)) (by decide) a x s h1 h2 h3
  · exact div_and 8 _ (forall_u8 _ (by decide +kernel)) (by decide) a x s h1 h2 h3
  · exact div_and 4 _ (forall_u8 _ (by decide +kernel)) (by decide) a x s h1 h2 h3
  · exact div_and 2 _ (forall_u8 _ (by decide +kernel)) (by decide) a x s h1 h2 h3
theorem and255 (a : UInt8) : a &&& 255 = a := by revert a; exact forall_u8 _ (by decide +kernel)
theorem cmpL_head {x y : UInt8} {xs ys : List UInt8} (h : cmpL (x :: xs) (y :: ys) ≤ 0) : x ≤ y ∧ (x = y → cmpL xs ys ≤ 0) := by
  unfold cmpL at h
  by_cases e : x = y
  · rw [if_pos e] at h
    exact ⟨by rw [e]; exact UInt8.le_refl _, fun _ => h⟩
  · rw [if_neg e] at h
    by_cases l : x < y
    · exact ⟨UInt8.le_of_lt l, fun h => absurd h e⟩
    · rw [if_neg l] at h; simp at h
theorem u8_antisymm {a b : UInt8} (h1 : a ≤ b) (h2 : b ≤ a) : a = b := by
  rw [UInt8.le_iff_toNat_le] at *
  exact UInt8.toNat_inj.1 (by omega)
/-- F2: what lies between a network's address and one of its own lies in it. -/
theorem inN_between : ∀ (A M S X : List UInt8), pm M = true → inN A M S = true → A.length = X.length → cmpL A X ≤ 0 → cmpL X S ≤ 0 → inN A M X = true
  | a :: A, m :: M, s :: S, x :: X, hp, h, hl, h1, h2 => by
    simp only [inN, Bool.and_eq_true, beq_iff_eq] at h ⊢
    obtain ⟨a1, a2⟩ := cmpL_head h1
    obtain ⟨b1, b2⟩ := cmpL_head h2
    unfold pm at hp
    by_cases e : m = 255
    · rw [if_pos e] at hp
      subst e
      simp only [and255] at h ⊢
      obtain rfl := h.1
      obtain rfl := u8_antisymm a1 b1
      exact ⟨rfl, inN_between A M S X hp h.2 (by simpa using hl) (a2 rfl) (b2 rfl)⟩
    · rw [if_neg e, Bool.and_eq_true] at hp
      refine ⟨part_between hp.1 a x s h.1 a1 b1, inN_zero _ _ _ hp.2 (inN_len _ _ _ h.2).2 (by simpa using hl)⟩
  | [], [], [], X, _, _, hl, _, _ => by
    have : X = [] := List.eq_nil_of_length_eq_zero (by simpa using hl.symm)
    subst this; rfl
  | a :: A, m :: M, s :: S, [], _, _, hl, _, _ => by simp at hl
  | [], [], _ :: _, _, _, h, _, _, _ => by simp [inN] at h
  | [], _ :: _, S, _, _, h, _, _, _ => by cases S <;> simp [inN] at h
  | _ :: _, [], _, _, _, h, _, _, _ => by simp [inN] at h
  | _ :: _, _ :: _, [], _, _, h, _, _, _ => by simp [inN] at h

theorem bits (a b : UInt8) (h : ∀ i, a.toBitVec.getLsbD i = b.toBitVec.getLsbD i) : a = b := UInt8.toBitVec_inj.1 (BitVec.eq_of_getLsbD_eq fun i _ => h i)
theorem or_and (b k m : UInt8) : (b ||| k) &&& m = (b &&& m) ||| (k &&& m) := by
  refine bits _ _ fun i => ?_
  simp [Bool.and_or_distrib_right]
theorem part_sub {p q : UInt8} (hp : isPart p = true ∨ p = 255) (hq : isPart q = true ∨ q = 255) (h : p ≤ q) : ~~~q &&& p = 0 := by
  have hp' : p = 0 ∨ p = 128 ∨ p = 192 ∨ p = 224 ∨ p = 240 ∨ p = 248 ∨ p = 252 ∨ p = 254 ∨ p = 255 := by
    rcases hp with hp | hp
    · rcases part_cases hp with h | h | h | h | h | h | h | h <;> simp [h]
    · simp [hp]
  have hq' : q = 0 ∨ q = 128 ∨ q = 192 ∨ q = 224 ∨ q = 240 ∨ q = 248 ∨ q = 252 ∨ q = 254 ∨ q = 255 := by
    rcases hq with hq | hq
    · rcases part_cases hq with h | h | h | h | h | h | h | h <;> simp [h]
    · simp [hq]
  revert h
  rcases hp' with rfl | rfl | rfl | rfl | rfl | rfl | rfl | rfl | rfl <;> rcases hq' with rfl | rfl | rfl | rfl | rfl | rfl | rfl | rfl | rfl <;> decide
theorem part_keep {p q : UInt8} (hp : isPart p = true ∨ p = 255) (hq : isPart q = true ∨ q = 255) (h : q ≤ p) (b : UInt8) (hb : b &&& q = b) : b &&& p = b := by
  have h1 : q &&& p = q := by
    have hp' : p = 0 ∨ p = 128 ∨ p = 192 ∨ p = 224 ∨ p = 240 ∨ p = 248 ∨ p = 252 ∨ p = 254 ∨ p = 255 := by
      rcases hp with hp | hp
      · rcases part_cases hp with h | h | h | h | h | h | h | h <;> simp [h]
      · simp [hp]
    have hq' : q = 0 ∨ q = 128 ∨ q = 192 ∨ q = 224 ∨ q = 240 ∨ q = 248 ∨ q = 252 ∨ q = 254 ∨ q = 255 := by
      rcases hq with hq | hq
      · rcases part_cases hq with h | h | h | h | h | h | h | h <;> simp [h]
      · simp [hq]
    revert h
    rcases hp' with rfl | rfl | rfl | rfl | rfl | rfl | rfl | rfl | rfl <;> rcases hq' with rfl | rfl | rfl | rfl | rfl | rfl | rfl | rfl | rfl <;> decide
  have h2 : b &&& p = (b &&& q) &&& p := by rw [hb]
  rw [h2, UInt8.and_assoc, h1, hb]
theorem pm_head {m : UInt8} {M : List UInt8} (h : pm (m :: M) = true) : isPart m = true ∨ m = 255 := by
  unfold pm at h
  by_cases e : m = 255
  · exact .inr e
  · rw [if_neg e, Bool.and_eq_true] at h; exact .inl h.1
theorem pm_tail {m : UInt8} {M : List UInt8} (h : pm (m :: M) = true) (e : m ≠ 255) : M.all (· == 0) = true := by
  unfold pm at h
  rw [if_neg e, Bool.and_eq_true] at h; exact h.2
/-- F3: a network that begins in another one, not ahead of it in order, lies in it. -/
theorem inN_bcast : ∀ (A M B N : List UInt8), pm M = true → pm N = true → maskedB A M = true → maskedB B N = true → A.length = B.length → inN A M B = true → (A = B → cmpL M N ≤ 0) → inN A M (bcast B N) = true
  | a :: A, m :: M, b :: B, n :: N, hM, hN, hA, hB, hl, h, ho => by
    have hl' : A.length = B.length := by simpa using hl
    have hAl := maskedB_len _ _ hA
    have hBl := maskedB_len _ _ hB
    simp only [inN, Bool.and_eq_true, beq_iff_eq] at h
    simp only [maskedB, Bool.and_eq_true, beq_iff_eq] at hA hB
    show inN (a :: A) (m :: M) ((b ||| ~~~n) :: bcast B N) = true
    simp only [inN, Bool.and_eq_true, beq_iff_eq]
    have hlb : (bcast B N).length = B.length := by
      unfold bcast; rw [List.length_zipWith]; simp at hBl; omega
    by_cases e : m = 255
    · subst e
      rw [and255, and255] at h
      obtain rfl := h.1
      by_cases e2 : n = 255
      · subst e2
        refine ⟨?_, inN_bcast A M B N (by simpa [pm] using hM) (by simpa [pm] using hN) hA.2 hB.2 hl' h.2 (fun e => ?_)⟩
        · clear hN hM hA hB h ho hAl hBl hl hl' hlb
          revert a; exact forall_u8 _ (by decide +kernel)
        · have := ho (by rw [e])
          exact (cmpL_head this).2 rfl
      · exfalso
        have hz := pm_tail hN e2
        have hBz := masked_zero _ _ hz hB.2
        have hAz : A.all (· == 0) = true := by
          have : ∀ (A M B : List UInt8), maskedB A M = true → inN A M B = true → B.all (· == 0) = true → A.all (· == 0) = true := by
            intro A
            induction A with
            | nil => intros; rfl
            | cons a A ih =>
              intro M B h1 h2 h3
              match M, B, h1, h2, h3 with
              | m :: M, b :: B, h1, h2, h3 =>
                simp only [maskedB, inN, List.all_cons, Bool.and_eq_true, beq_iff_eq] at h1 h2 h3 ⊢
                refine ⟨?_, ih M B h1.2 h2.2 h3.2⟩
                rw [← h1.1, h2.1, h3.1]; simp
              | [], _, h1, _, _ => simp [maskedB] at h1
              | _ :: _, [], _, h2, _ => simp [inN] at h2
          exact this A M B hA.2 h.2 hBz
        have := ho (by rw [zeros_eq A B hAz hBz hl'])
        have := (cmpL_head this).1
        rw [UInt8.le_iff_toNat_le] at this
        have h2 : n.toNat < 256 := n.toNat_lt
        have h3 : n.toNat ≠ 255 := fun e => e2 (UInt8.toNat_inj.1 e)
        have h4 : (255 : UInt8).toNat = 255 := rfl
        omega
    · have hz := pm_tail hM e
      refine ⟨?_, inN_zero _ _ _ hz (by simpa using hAl) (by omega)⟩
      by_cases hle : m ≤ n
      · rw [or_and, part_sub (pm_head hM) (pm_head hN) hle, ← h.1]
        simp
      · exfalso
        have hnm : n ≤ m := by rw [UInt8.le_iff_toNat_le] at *; omega
        have hk := part_keep (pm_head hM) (pm_head hN) hnm b hB.1
        have eab : a = b := by rw [← hA.1, h.1, hk]
        have hn2 : n ≠ 255 := fun e => by
          subst e
          rw [UInt8.le_iff_toNat_le] at hle
          have := m.toNat_lt
          have h4 : (255 : UInt8).toNat = 255 := rfl
          omega
        have hBz := masked_zero _ _ (pm_tail hN hn2) hB.2
        have hAz := masked_zero _ _ hz hA.2
        have := (cmpL_head (ho (by rw [eab, zeros_eq A B hAz hBz hl']))).1
        exact hle this
  | [], [], [], [], _, _, _, _, _, _, _ => rfl
  | [], [], b :: B, _, _, _, _, _, hl, _, _ => by simp at hl
  | _ :: _, [], _, _, _, _, h, _, _, _, _ => by simp [maskedB] at h
  | [], _ :: _, _, _, _, _, h, _, _, _, _ => by simp [maskedB] at h
  | _ :: _, _ :: _, [], _, _, _, _, _, hl, _, _ => by simp at hl
  | _ :: _, _ :: _, _ :: _, [], _, _, _, h, _, _, _ => by simp [maskedB] at h
  | [], [], [], _ :: _, _, _, _, h, _, _, _ => by simp [maskedB] at h
/-- What lies in a network whose two ends lie in another one lies in that. -/
theorem inN_sub : ∀ (A M B N S : List UInt8), maskedB B N = true → inN A M B = true → inN A M (bcast B N) = true → inN B N S = true → inN A M S = true
  | a :: A, m :: M, b :: B, n :: N, s :: S, hB, h1, h2, h3 => by
    have h2' : inN (a :: A) (m :: M) ((b ||| ~~~n) :: bcast B N) = true := h2
    simp only [inN, maskedB, Bool.and_eq_true, beq_iff_eq] at h1 h2' h3 hB ⊢
    refine ⟨?_, inN_sub A M B N S hB.2 h1.2 h2'.2 h3.2⟩
    refine bits _ _ fun i => ?_
    have e1 := congrArg (fun u : UInt8 => u.toBitVec.getLsbD i) h1.1
    have e2 := congrArg (fun u : UInt8 => u.toBitVec.getLsbD i) h2'.1
    have e3 := congrArg (fun u : UInt8 => u.toBitVec.getLsbD i) h3.1
    have e4 := congrArg (fun u : UInt8 => u.toBitVec.getLsbD i) hB.1
    by_cases hi : i < 8
    · simp only [UInt8.toBitVec_and, UInt8.toBitVec_or, UInt8.toBitVec_not, BitVec.getLsbD_and, BitVec.getLsbD_or, BitVec.getLsbD_not, hi, decide_true, Bool.true_and] at e1 e2 e3 e4 ⊢
      revert e1 e2 e3 e4
      cases a.toBitVec.getLsbD i <;> cases b.toBitVec.getLsbD i <;> cases m.toBitVec.getLsbD i <;> cases n.toBitVec.getLsbD i <;> cases s.toBitVec.getLsbD i <;> simp
    · rw [BitVec.getLsbD_of_ge _ _ (by omega), BitVec.getLsbD_of_ge _ _ (by omega)]
  | [], [], [], [], [], _, _, _, _ => rfl
  | [], M, b :: B, _, _, _, h, _, _ => by cases M <;> simp [inN] at h
  | [], _ :: _, [], _, _, _, h, _, _ => by simp [inN] at h
  | _ :: _, [], _, _, _, _, h, _, _ => by simp [inN] at h
  | _ :: _, _ :: _, [], _, _, _, h, _, _ => by simp [inN] at h
  | _ :: _, _ :: _, _ :: _, [], _, h, _, _, _ => by simp [maskedB] at h
  | _ :: _, _ :: _, _ :: _, _ :: _, [], _, _, _, h => by simp [inN] at h
  | [], [], [], _ :: _, _, h, _, _, _ => by simp [maskedB] at h
  | [], [], [], [], _ :: _, _, _, _, h => by simp [inN] at h

/-- A network of one length, ones and noughts, its address masked. -/
structure GoodN (L : Nat) (A M : List UInt8) : Prop where
  la : A.length = L
  lm : M.length = L
  ones : pm M = true
  msk : maskedB A M = true
def cmp2 (A M B N : List UInt8) : Int := if cmpL A B = 0 then cmpL M N else cmpL A B
def sub2 (A M B N : List UInt8) : Bool := inN A M B && inN A M (bcast B N)
theorem not_lt_swapL {x y : List UInt8} (h : ¬ cmpL y x < 0) : cmpL x y ≤ 0 := by rw [cmpL_swap y x]; omega
theorem cmp2_le {A M B N : List UInt8} (h : ¬ cmp2 B N A M < 0) : cmpL A B ≤ 0 ∧ (A = B → cmpL M N ≤ 0) := by
  unfold cmp2 at h
  by_cases e : cmpL B A = 0
  · rw [if_pos e] at h
    have := cmpL_eq _ _ e
    subst this
    exact ⟨by rw [cmpL_refl]; decide, fun _ => not_lt_swapL h⟩
  · rw [if_neg e] at h
    exact ⟨not_lt_swapL h, fun e2 => absurd (by rw [e2]; exact cmpL_refl B) e⟩
theorem cmp2_swap (A M B N : List UInt8) : cmp2 B N A M = - cmp2 A M B N := by
  unfold cmp2
  rw [cmpL_swap A B]
  by_cases e : cmpL A B = 0
  · rw [if_pos e, if_pos (by omega), cmpL_swap M N]
  · rw [if_neg e, if_neg (by omega)]
theorem cmp2_trans (A M B N C O : List UInt8) (h1 : cmp2 A M B N ≤ 0) (h2 : cmp2 B N C O ≤ 0) : cmp2 A M C O ≤ 0 := by
  have a1 := cmp2_le (A := A) (M := M) (B := B) (N := N) (by rw [cmp2_swap A M B N]; omega)
  have a2 := cmp2_le (A := B) (M := N) (B := C) (N := O) (by rw [cmp2_swap B N C O]; omega)
  have h3 := cmpL_trans _ _ _ a1.1 a2.1
  unfold cmp2
  by_cases e : cmpL A C = 0
  · rw [if_pos e]
    have := cmpL_eq _ _ e
    subst this
    have hz : cmpL A B = 0 := by have := a2.1; rw [cmpL_swap A B] at this; have := a1.1; omega
    have := cmpL_eq _ _ hz
    subst this
    exact cmpL_trans _ _ _ (a1.2 rfl) (a2.2 rfl)
  · rw [if_neg e]; exact h3
theorem cmp2_eq {A M B N : List UInt8} (h : cmp2 A M B N = 0) : A = B ∧ M = N := by
  unfold cmp2 at h
  by_cases e : cmpL A B = 0
  · rw [if_pos e] at h; exact ⟨cmpL_eq _ _ e, cmpL_eq _ _ h⟩
  · rw [if_neg e] at h; exact absurd h e
/-- Networks of one length are laminar. -/
theorem netLaminar {α : Type} (L : Nat) (A M : α → List UInt8) (hg : ∀ x, GoodN L (A x) (M x)) :
    Laminar (β := { s : List UInt8 // s.length = L }) (fun x y => cmp2 (A x) (M x) (A y) (M y)) (fun x y => sub2 (A x) (M x) (A y) (M y)) (fun x s => cmpL (A x) s.1) (fun x s => inN (A x) (M x) s.1) where
  subMat a b s h1 h2 := by
    unfold sub2 at h1
    rw [Bool.and_eq_true] at h1
    exact inN_sub _ _ _ _ _ (hg b).msk h1.1 h1.2 h2
  convex a b c h1 h2 h3 := by
    unfold sub2 at h3 ⊢
    rw [Bool.and_eq_true] at h3 ⊢
    have l1 := cmp2_le h1
    have l2 := cmp2_le h2
    have hb := inN_between _ _ _ (A b) (hg a).ones h3.1 (by rw [(hg a).la, (hg b).la]) l1.1 l2.1
    exact ⟨hb, inN_bcast _ _ _ _ (hg a).ones (hg b).ones (hg a).msk (hg b).msk (by rw [(hg a).la, (hg b).la]) hb l1.2⟩
  convexT a b s h1 h2 h3 := by
    unfold sub2
    rw [Bool.and_eq_true]
    have l1 := cmp2_le h1
    have hb := inN_between _ _ _ (A b) (hg a).ones h3 (by rw [(hg a).la, (hg b).la]) l1.1 (by omega)
    exact ⟨hb, inN_bcast _ _ _ _ (hg a).ones (hg b).ones (hg a).msk (hg b).msk (by rw [(hg a).la, (hg b).la]) hb l1.2⟩
  ahead a s h := by have := inN_le _ _ _ (hg a).msk h; omega
  exact a s h := by
    have := cmpL_eq _ _ h
    rw [← this]
    exact inN_self _ _ (by rw [(hg a).la, (hg a).lm])
  mono a b s h1 h2 := by
    have l1 := cmp2_le h1
    have h3 := cmpL_trans _ _ _ l1.1 (by omega : cmpL (A b) s.1 ≤ 0)
    rcases Int.lt_or_eq_of_le h3 with h4 | h4
    · exact h4
    · have e := cmpL_eq _ _ h4
      rw [e, cmpL_swap (A b) s.1] at l1
      have := l1.1
      omega
  monoUp a b s h1 h2 := by
    have l1 := cmp2_le h1
    have e1 := cmpL_swap s.1 (A a)
    have e2 := cmpL_swap s.1 (A b)
    have h3 := cmpL_trans _ _ _ (by omega : cmpL s.1 (A a) ≤ 0) l1.1
    rcases Int.lt_or_eq_of_le h3 with h4 | h4
    · omega
    · have e := cmpL_eq _ _ h4
      have l2 := l1.1
      rw [← e] at l2
      omega
end Go.Proofs.YtblabjfjhlablaaGreatDoor.Nc
