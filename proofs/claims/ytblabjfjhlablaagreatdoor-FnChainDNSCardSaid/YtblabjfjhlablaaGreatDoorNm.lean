/- Names of hosts in plain Lean: labels, and what a name is fit for. -/
import Derived.Test.YtblabjfjhlablaaGreatDoorW9
namespace Go.Proofs.YtblabjfjhlablaaGreatDoor
open Nc
/-- The labels from place i on, the one at hand begun at 'fr'. -/
def cuts (s : ByteArray) (fr i : Nat) : List ByteArray :=
  if h : i < s.size then (if s[i].toNat = 46 then s.extract fr i :: cuts s (i + 1) (i + 1) else cuts s fr (i + 1)) else [s.extract fr s.size]
termination_by s.size - i
def okByte (b : UInt8) : Bool := let c := (low b).toNat; (decide (97 ≤ c) && decide (c ≤ 122)) || (decide (48 ≤ c) && decide (c ≤ 57)) || decide (c = 45)
def labelB (x : ByteArray) : Bool :=
  if h : 1 ≤ x.size ∧ x.size ≤ 63 then decide (x[0].toNat ≠ 45) && decide (x[x.size - 1].toNat ≠ 45) && x.data.toList.all okByte else false
def alphaB (x : ByteArray) : Bool := if h : 0 < x.size then decide (97 ≤ (low x[0]).toNat ∧ (low x[0]).toNat ≤ 122) else false
def nameB (s : ByteArray) : Bool := (cuts s 0 0).all labelB && decide (s.size ≤ 200) && alphaB ((cuts s 0 0).getLastD ByteArray.empty)
theorem cuts_ne (s : ByteArray) : ∀ (m fr i : Nat), s.size - i = m → cuts s fr i ≠ [] := by
  intro m
  induction m with
  | zero => intro fr i h; rw [cuts, dif_neg (by omega)]; simp
  | succ m ih =>
    intro fr i h
    rw [cuts, dif_pos (by omega)]
    split
    · simp
    · exact ih fr (i + 1) (by omega)
theorem cuts_head (s : ByteArray) : ∀ (m fr i : Nat), s.size - i = m → i ≤ s.size → ∃ e rest, cuts s fr i = s.extract fr e :: rest ∧ i ≤ e ∧ e ≤ s.size := by
  intro m
  induction m with
  | zero => intro fr i h hi; rw [cuts, dif_neg (by omega)]; exact ⟨s.size, [], rfl, hi, Nat.le_refl _⟩
  | succ m ih =>
    intro fr i h hi
    rw [cuts, dif_pos (by omega)]
    split
    · exact ⟨i, _, rfl, Nat.le_refl _, hi⟩
    · obtain ⟨e, rest, h1, h2, h3⟩ := ih fr (i + 1) (by omega) (by omega)
      exact ⟨e, rest, h1, by omega, h3⟩
theorem labelB_size {x : ByteArray} (h : labelB x = true) : 1 ≤ x.size ∧ x.size ≤ 63 := by
  unfold labelB at h
  split at h
  · assumption
  · cases h
theorem labelB_byte {x : ByteArray} (h : labelB x = true) (j : Nat) (hj : j < x.size) : okByte x[j] = true := by
  have hs := labelB_size h
  unfold labelB at h
  rw [dif_pos hs] at h
  simp only [Bool.and_eq_true, List.all_eq_true] at h
  exact h.2 _ (List.getElem_mem (l := x.data.toList) (n := j) (by simpa using hj))
theorem cut_size (s : ByteArray) (fr e : Nat) (he : e ≤ s.size) : (s.extract fr e).size = e - fr := by simp; omega
theorem cuts_byte (s : ByteArray) (fr i j : Nat) (hi : i ≤ s.size) (h : (cuts s fr i).all labelB = true) (h1 : fr ≤ j) (h2 : j < i) : okByte (s[j]'(by omega)) = true := by
  obtain ⟨e, rest, hc, hie, hes⟩ := cuts_head s _ fr i rfl hi
  rw [hc] at h
  simp only [List.all_cons, Bool.and_eq_true] at h
  have hsz := cut_size s fr e hes
  have := labelB_byte h.1 (j - fr) (by omega)
  rw [ByteArray.getElem_extract] at this
  simpa [show fr + (j - fr) = j by omega] using this
theorem ok_visible : ∀ b : UInt8, okByte b = true → 33 ≤ b.toNat ∧ b.toNat ≤ 126 ∧ b.toNat ≠ 46 ∧ b.toNat ≠ 42 := forall_u8 _ (by decide +kernel)
theorem cuts_dnv (s : ByteArray) : ∀ (m fr i : Nat), s.size - i = m → fr ≤ i → i ≤ s.size → (cuts s fr i).all labelB = true → dnvGo (decide (fr = i)) (s.data.toList.drop i) = true := by
  intro m
  induction m with
  | zero =>
    intro fr i hm hfi hi h
    obtain rfl : i = s.size := by omega
    rw [cuts, dif_neg (by omega)] at h
    simp only [List.all_cons, List.all_nil, Bool.and_true] at h
    have := labelB_size h
    rw [cut_size s fr _ (Nat.le_refl _)] at this
    rw [decide_eq_false (by omega), List.drop_eq_nil_of_le (by simp), dnvGo]
    rfl
  | succ m ih =>
    intro fr i hm hfi hi h
    have hlt : i < s.size := by omega
    rw [drop_bytes s i hlt]
    have h0 := h
    rw [cuts, dif_pos hlt] at h
    by_cases hd : s[i].toNat = 46
    · rw [if_pos hd] at h
      simp only [List.all_cons, Bool.and_eq_true] at h
      have h1 := labelB_size h.1
      rw [cut_size s fr i (by omega)] at h1
      have h2 := ih (i + 1) (i + 1) (by omega) (Nat.le_refl _) (by omega) h.2
      rw [decide_eq_true rfl] at h2
      have hf : decide (fr = i) = false := decide_eq_false (by omega)
      rw [hf, dnvGo, if_neg (by simp; omega), if_pos hd, if_neg (by decide)]
      exact h2
    · rw [if_neg hd] at h
      have hb := ok_visible _ (cuts_byte s fr (i + 1) i (by omega) h hfi (by omega))
      have h2 := ih fr (i + 1) (by omega) (by omega) (by omega) h
      have hf : decide (fr = i + 1) = false := decide_eq_false (by omega)
      rw [hf] at h2
      rw [dnvGo, if_neg (by simp; omega), if_neg hd]
      exact h2
theorem dnvGo_visible : ∀ (l : List UInt8) (pd : Bool), dnvGo pd l = true → ∀ b ∈ l, 33 ≤ b.toNat
  | [], _, _, b, hb => by simp at hb
  | c :: l, pd, h, b, hb => by
    rw [dnvGo] at h
    split at h
    · cases h
    · rename_i hv
      rcases List.mem_cons.1 hb with rfl | hb
      · simp at hv; omega
      · split at h
        · split at h
          · cases h
          · exact dnvGo_visible l _ h b hb
        · exact dnvGo_visible l _ h b hb
structure NameFacts (s : ByteArray) : Prop where
  pos : 0 < s.size
  size : s.size ≤ 200
  noz : NoZ s.data.toList
  star : NoStar s
  valid : dnv s = true
theorem nameB_facts (s : ByteArray) (h : nameB s = true) : NameFacts s := by
  unfold nameB at h
  simp only [Bool.and_eq_true, decide_eq_true_eq] at h
  obtain ⟨⟨h1, h2⟩, _⟩ := h
  have hpos : 0 < s.size := by
    rcases Nat.eq_zero_or_pos s.size with h0 | h0
    · rw [cuts, dif_neg (by omega)] at h1
      simp only [List.all_cons, List.all_nil, Bool.and_true] at h1
      have := labelB_size h1
      rw [cut_size s 0 _ (Nat.le_refl _)] at this
      omega
    · exact h0
  have hv := cuts_dnv s _ 0 0 rfl (Nat.le_refl _) (Nat.zero_le _) h1
  rw [decide_eq_true rfl, List.drop_zero] at hv
  refine ⟨hpos, h2, ?_, ?_, ?_⟩
  · intro b hb e
    have := dnvGo_visible _ _ hv b hb
    subst e
    exact absurd this (by decide)
  · intro _ hs
    have h0 := h1
    rw [cuts, dif_pos hpos, if_neg (by omega)] at h0
    exact (ok_visible _ (cuts_byte s 0 1 0 (by omega) h0 (Nat.le_refl _) (by omega))).2.2.2 hs
  · unfold dnv
    rw [if_neg (by omega)]
    exact hv
end Go.Proofs.YtblabjfjhlablaaGreatDoor
