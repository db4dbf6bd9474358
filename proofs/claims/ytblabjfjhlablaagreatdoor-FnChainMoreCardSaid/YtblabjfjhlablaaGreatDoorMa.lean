/- Networks and addresses as spec speaks of them, in plain Lean. -/
import Derived.Test.YtblabjfjhlablaaGreatDoorIp
namespace Go.Proofs.YtblabjfjhlablaaGreatDoor
open Nc
/-- Sixteen bytes that are an address of four. -/
def mapped (l : List UInt8) : Bool := (l.take 10).all (· == 0) && (l.getD 10 0 == 255) && (l.getD 11 0 == 255)
def addrB (l : List UInt8) : Bool := l.length == 4 || (l.length == 16 && !mapped l)
def bitOf (m : UInt8) (k : Nat) : Bool := decide (m.toNat / 2 ^ (7 - k) % 2 = 1)
def bitsOf (m : UInt8) : List Bool := (List.range 8).map (bitOf m)
/-- Ones, and then noughts. -/
def scanA : List Bool → Bool
  | [] => true
  | b :: r => if b then scanA r else r.all (!·)
theorem scanA_append : ∀ (xs r : List Bool), scanA (xs ++ r) = if xs.all id then scanA r else (scanA xs && r.all (!·))
  | [], r => rfl
  | b :: xs, r => by
    rw [List.cons_append, scanA, scanA, scanA_append xs r, List.all_cons]
    cases b with
    | true => simp
    | false => simp
theorem bits_all : ∀ m : UInt8, (bitsOf m).all id = (m == 255) := forall_u8 _ (by decide +kernel)
theorem bits_scan : ∀ m : UInt8, scanA (bitsOf m) = (m == 255 || isPart m) := forall_u8 _ (by decide +kernel)
theorem bits_none : ∀ m : UInt8, (bitsOf m).all (!·) = (m == 0) := forall_u8 _ (by decide +kernel)
theorem flat_none : ∀ M : List UInt8, (M.flatMap bitsOf).all (!·) = M.all (· == 0)
  | [] => rfl
  | m :: M => by rw [List.flatMap_cons, List.all_append, bits_none, flat_none M, List.all_cons]
theorem scan_pm : ∀ M : List UInt8, scanA (M.flatMap bitsOf) = pm M
  | [] => rfl
  | m :: M => by
    rw [List.flatMap_cons, scanA_append, bits_all, bits_scan, flat_none, scan_pm M, pm]
    by_cases h : m = 255
    · subst h; simp
    · have : (m == 255) = false := beq_eq_false_iff_ne.2 h
      simp [this, h]
/-- A network of which the statements speak. -/
def netB (n : List UInt8 × List UInt8) : Bool := addrB n.1 && (n.2.length == n.1.length) && pm n.2 && addrB (bcast n.1 n.2) && maskedB n.1 n.2
structure NetOk (n : List UInt8 × List UInt8) : Prop where
  addr : addrB n.1 = true
  len : n.2.length = n.1.length
  ones : pm n.2 = true
  last : addrB (bcast n.1 n.2) = true
  msk : maskedB n.1 n.2 = true
theorem netB_ok {n : List UInt8 × List UInt8} (h : netB n = true) : NetOk n := by
  unfold netB at h
  simp only [Bool.and_eq_true, beq_iff_eq] at h
  exact ⟨h.1.1.1.1, h.1.1.1.2, h.1.1.2, h.1.2, h.2⟩
theorem NetOk.good {n : List UInt8 × List UInt8} (h : NetOk n) : GoodN n.1.length n.1 n.2 := ⟨rfl, h.len, h.ones, h.msk⟩
theorem addrB_len {l : List UInt8} (h : addrB l = true) : l.length = 4 ∨ l.length = 16 := by
  unfold addrB at h
  simp only [Bool.or_eq_true, Bool.and_eq_true, beq_iff_eq] at h
  exact h.imp id (·.1)
theorem addrB_map {l : List UInt8} (h : addrB l = true) (h16 : l.length = 16) : mapped l = false := by
  unfold addrB at h
  simp only [Bool.or_eq_true, Bool.and_eq_true, beq_iff_eq, Bool.not_eq_true'] at h
  rcases h with h | h
  · omega
  · exact h.2
theorem bcast_len {A M : List UInt8} (h : M.length = A.length) : (bcast A M).length = A.length := by
  unfold bcast
  rw [List.length_zipWith]
  omega
theorem andnot_mask : ∀ a m : UInt8, (a &&& ~~~m = 0) ↔ (a &&& m = a) := by
  intro a m
  constructor
  · intro h
    refine bits _ _ fun i => ?_
    have e := congrArg (fun u : UInt8 => u.toBitVec.getLsbD i) h
    by_cases hi : i < 8
    · simp only [UInt8.toBitVec_and, UInt8.toBitVec_not, BitVec.getLsbD_and, BitVec.getLsbD_not, hi, decide_true, Bool.true_and] at e ⊢
      have z : (0 : UInt8).toBitVec.getLsbD i = false := by simp
      rw [z] at e
      revert e
      cases a.toBitVec.getLsbD i <;> cases m.toBitVec.getLsbD i <;> simp
    · rw [BitVec.getLsbD_of_ge _ _ (by omega), BitVec.getLsbD_of_ge _ _ (by omega)]
  · intro h
    refine bits _ _ fun i => ?_
    have e := congrArg (fun u : UInt8 => u.toBitVec.getLsbD i) h
    by_cases hi : i < 8
    · simp only [UInt8.toBitVec_and, UInt8.toBitVec_not, BitVec.getLsbD_and, BitVec.getLsbD_not, hi, decide_true, Bool.true_and] at e ⊢
      have z : (0 : UInt8).toBitVec.getLsbD i = false := by simp
      rw [z]
      revert e
      cases a.toBitVec.getLsbD i <;> cases m.toBitVec.getLsbD i <;> simp
    · rw [BitVec.getLsbD_of_ge _ _ (by omega), BitVec.getLsbD_of_ge _ _ (by omega)]
/-- A network's own address under its mask is itself. -/
theorem zip_masked : ∀ A M : List UInt8, maskedB A M = true → List.zipWith (· &&& ·) A M = A
  | a :: A, m :: M, h => by
    simp only [maskedB, Bool.and_eq_true, beq_iff_eq] at h
    rw [List.zipWith_cons_cons, h.1, zip_masked A M h.2]
  | [], [], _ => rfl
  | [], _ :: _, h => by simp [maskedB] at h
  | _ :: _, [], h => by simp [maskedB] at h
theorem masked_iff : ∀ A M : List UInt8, A.length = M.length → (maskedB A M = true ↔ ∀ j (h1 : j < A.length) (h2 : j < M.length), A[j] &&& ~~~M[j] = 0)
  | a :: A, m :: M, h => by
    have ih := masked_iff A M (by simpa using h)
    simp only [maskedB, Bool.and_eq_true, beq_iff_eq, ih]
    constructor
    · rintro ⟨h1, h2⟩ j hj hk
      cases j with
      | zero => exact (andnot_mask a m).2 h1
      | succ j => exact h2 j (by simpa using hj) (by simpa using hk)
    · intro hall
      exact ⟨(andnot_mask a m).1 (hall 0 (by simp) (by simp)), fun j hj hk => hall (j + 1) (by simpa using hj) (by simpa using hk)⟩
  | [], [], _ => by simp [maskedB]
  | [], _ :: _, h => by simp at h
  | _ :: _, [], h => by simp at h
theorem inN_iff : ∀ A M S : List UInt8, A.length = M.length → A.length = S.length → (inN A M S = true ↔ ∀ j (h1 : j < A.length) (h2 : j < M.length) (h3 : j < S.length), A[j] &&& M[j] = S[j] &&& M[j])
  | a :: A, m :: M, s :: S, h, h' => by
    have ih := inN_iff A M S (by simpa using h) (by simpa using h')
    simp only [inN, Bool.and_eq_true, beq_iff_eq, ih]
    constructor
    · rintro ⟨h1, h2⟩ j hj hk hl
      cases j with
      | zero => exact h1
      | succ j => exact h2 j (by simpa using hj) (by simpa using hk) (by simpa using hl)
    · intro hall
      exact ⟨hall 0 (by simp) (by simp) (by simp), fun j hj hk hl => hall (j + 1) (by simpa using hj) (by simpa using hk) (by simpa using hl)⟩
  | [], [], [], _, _ => by simp [inN]
  | [], _ :: _, _, h, _ => by simp at h
  | _ :: _, [], _, h, _ => by simp at h
  | [], [], _ :: _, _, h => by simp at h
  | _ :: _, _ :: _, [], _, h => by simp at h
/-- Networks: the one's length is the other's. -/
theorem inN_ne {A M S : List UInt8} (h : A.length ≠ S.length) : inN A M S = false := by
  cases hc : inN A M S with
  | false => rfl
  | true => exact absurd (inN_len A M S hc).1 h
end Go.Proofs.YtblabjfjhlablaaGreatDoor
