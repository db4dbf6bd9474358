/- Names in lower case, in plain Lean: what the check of URIs rests on. -/
import Derived.Test.YtblabjfjhlablaaGreatDoorNm
import Derived.Test.YtblabjfjhlablaaGreatDoorW34
namespace Go.Proofs.YtblabjfjhlablaaGreatDoor
open Nc
/-- A text in lower case, of ASCII. -/
def lowS (s : ByteArray) : ByteArray := ⟨(s.data.toList.map low).toArray⟩
theorem lowS_list (s : ByteArray) : (lowS s).data.toList = s.data.toList.map low := by simp [lowS]
theorem lowS_size (s : ByteArray) : (lowS s).size = s.size := by
  show (s.data.toList.map low).toArray.size = _
  simp
theorem lowS_get (s : ByteArray) (j : Nat) (h : j < (lowS s).size) : (lowS s)[j] = low (s[j]'(by rw [lowS_size] at h; exact h)) := by
  have h2 : j < s.size := by rw [lowS_size] at h; exact h
  have e : (lowS s).data.toList[j]? = some (low s[j]) := by
    rw [lowS_list, List.getElem?_map]
    have : s.data.toList[j]? = some s[j] := by
      rw [List.getElem?_eq_getElem (by simpa using h2)]; rfl
    rw [this]; rfl
  rw [List.getElem?_eq_getElem (by simpa using h)] at e
  exact Option.some.inj e
theorem lowerA_eq (l : List UInt8) : Lib.toLowerA l = l.map low := by
  unfold Lib.toLowerA
  have h : ∀ b : UInt8, Lib.lowerB b = low b := forall_u8 _ (by decide +kernel)
  exact List.map_congr_left fun b _ => h b
theorem lowS_eq (s : ByteArray) : (⟨(Lib.toLowerA s.data.toList).toArray⟩ : ByteArray) = lowS s := by rw [lowerA_eq]; rfl
theorem low_low : ∀ b : UInt8, low (low b) = low b := forall_u8 _ (by decide +kernel)
theorem cuts_all (s : ByteArray) : ∀ (m fr i : Nat), s.size - i = m → fr ≤ i → i ≤ s.size → (cuts s fr i).all labelB = true → ∀ j (hj : j < s.size), fr ≤ j → okByte s[j] = true ∨ s[j].toNat = 46 := by
  intro m
  induction m with
  | zero =>
    intro fr i hm hfi hi h j hj hfj
    obtain rfl : i = s.size := by omega
    exact .inl (cuts_byte s fr s.size j (Nat.le_refl _) h hfj hj)
  | succ m ih =>
    intro fr i hm hfi hi h j hj hfj
    have hlt : i < s.size := by omega
    have h0 := h
    rw [cuts, dif_pos hlt] at h
    by_cases hd : s[i].toNat = 46
    · rw [if_pos hd] at h
      simp only [List.all_cons, Bool.and_eq_true] at h
      by_cases hji : j < i
      · exact .inl (cuts_byte s fr i j hi h0 hfj hji)
      · by_cases e : j = i
        · subst e; exact .inr hd
        · exact ih (i + 1) (i + 1) (by omega) (Nat.le_refl _) (by omega) h.2 j hj (by omega)
    · rw [if_neg hd] at h
      exact ih fr (i + 1) (by omega) (by omega) (by omega) h j hj hfj
theorem cuts_last (s : ByteArray) : ∀ (m fr i : Nat), s.size - i = m → fr ≤ i → i ≤ s.size → ∃ f, (cuts s fr i).getLastD ByteArray.empty = s.extract f s.size ∧ f ≤ s.size := by
  intro m
  induction m with
  | zero =>
    intro fr i hm hfi hi
    rw [cuts, dif_neg (by omega)]
    exact ⟨fr, rfl, by omega⟩
  | succ m ih =>
    intro fr i hm hfi hi
    have hlt : i < s.size := by omega
    rw [cuts, dif_pos hlt]
    by_cases hd : s[i].toNat = 46
    · rw [if_pos hd]
      obtain ⟨f, h1, h2⟩ := ih (i + 1) (i + 1) (by omega) (Nat.le_refl _) (by omega)
      refine ⟨f, ?_, h2⟩
      rw [← h1]
      have hne := cuts_ne s _ (i + 1) (i + 1) rfl
      cases hc : cuts s (i + 1) (i + 1) with
      | nil => exact absurd hc hne
      | cons a r => simp
    · rw [if_neg hd]
      exact ih fr (i + 1) (by omega) (by omega) (by omega)
theorem ok_low : ∀ b : UInt8, okByte b = true → okByte (low b) = true ∧ (low b).toNat < 128 ∧ (low b).toNat ≠ 58 ∧ (low b).toNat ≠ 91 ∧ b.toNat < 128 := forall_u8 _ (by decide +kernel)
theorem alpha_notDig : ∀ b : UInt8, 97 ≤ (low b).toNat ∧ (low b).toNat ≤ 122 → ¬ (low b).toNat = 46 ∧ ¬ (48 ≤ (low b).toNat ∧ (low b).toNat ≤ 57) := by intro b h; omega
/-- What the check of a URI asks of a host. -/
structure HostFacts (s : ByteArray) : Prop where
  ascii : ∀ (j : Nat) (b : UInt8), s.data.toList[j]? = some b → b.toNat < 128
  noColon : ∀ j (h : j < (lowS s).size), (lowS s)[j].toNat ≠ 58
  noBracket : ∀ h : 0 < (lowS s).size, (lowS s)[0].toNat ≠ 91
  bad : ∃ j, ∃ h : j < (lowS s).size, ¬ dotDig (lowS s)[j].toNat
theorem nameB_host (s : ByteArray) (h : nameB s = true) : HostFacts s := by
  have hf := nameB_facts s h
  unfold nameB at h
  simp only [Bool.and_eq_true, decide_eq_true_eq] at h
  obtain ⟨⟨h1, h2⟩, h3⟩ := h
  have hall := cuts_all s _ 0 0 rfl (Nat.le_refl _) (Nat.zero_le _) h1
  refine ⟨fun j b hb => ?_, fun j hj => ?_, fun hj => ?_, ?_⟩
  · have hj : j < s.size := by simpa using (List.getElem?_eq_some_iff.1 hb).1
    have e : b = s[j] := by
      rw [List.getElem?_eq_getElem (by simpa using hj)] at hb
      exact (Option.some.inj hb).symm
    subst e
    rcases hall j hj (Nat.zero_le _) with h | h
    · exact (ok_low _ h).2.2.2.2
    · omega
  · rw [lowS_get]
    rcases hall j (by rw [lowS_size] at hj; exact hj) (Nat.zero_le _) with h | h
    · exact (ok_low _ h).2.2.1
    · intro e
      have : s[j]'(by rw [lowS_size] at hj; exact hj) = 46 := UInt8.toNat_inj.1 h
      rw [this] at e
      revert e; decide
  · rw [lowS_get]
    rcases hall 0 (by rw [lowS_size] at hj; exact hj) (Nat.zero_le _) with h | h
    · exact (ok_low _ h).2.2.2.1
    · intro e
      have : s[0]'(by rw [lowS_size] at hj; exact hj) = 46 := UInt8.toNat_inj.1 h
      rw [this] at e
      revert e; decide
  · obtain ⟨f, hl, hfs⟩ := cuts_last s _ 0 0 rfl (Nat.le_refl _) (Nat.zero_le _)
    rw [hl] at h3
    unfold alphaB at h3
    split at h3
    · rename_i hpos
      rw [cut_size s f _ (Nat.le_refl _)] at hpos
      have hfl : f < s.size := by omega
      refine ⟨f, by rw [lowS_size]; exact hfl, ?_⟩
      rw [lowS_get]
      rw [decide_eq_true_eq, ByteArray.getElem_extract] at h3
      have e : s[f + 0]'(by omega) = s[f] := by simp
      rw [e] at h3
      have := alpha_notDig _ h3
      unfold dotDig
      omega
    · cases h3
theorem hasB_colon (s : ByteArray) (h : ∀ j (h : j < s.size), s[j].toNat ≠ 58) : hasB s ⟨#[58]⟩ = false := by
  refine List.any_eq_false.2 fun j hj => ?_
  have e1 : (⟨#[58]⟩ : ByteArray).size = 1 := rfl
  have hj := List.mem_range.1 hj
  have hjs : j < s.size := by omega
  unfold hasAt
  rw [e1]
  intro hc
  have hc := beq_iff_eq.1 hc
  rw [ByteArray.toList_eq, ByteArray.toList_eq] at hc
  have h0 := congrArg (fun l : List UInt8 => l[0]?) hc
  have e2 : (s.extract j (j + 1)).data.toList[0]? = some s[j] := by
    rw [ByteArray.data_extract, Array.getElem?_toList, Array.getElem?_extract]
    rw [if_pos (by simp; omega)]
    simp only [Nat.add_zero]
    exact Array.getElem?_eq_getElem hjs
  simp only at h0
  rw [e2] at h0
  have : s[j] = 58 := by simpa using h0
  exact h j hjs (by rw [this]; rfl)
end Go.Proofs.YtblabjfjhlablaaGreatDoor
