/- Mailboxes as spec speaks of them, in plain Lean: what such a text is fit for. -/
import Derived.Test.YtblabjfjhlablaaGreatDoorW43
namespace Go.Proofs.YtblabjfjhlablaaGreatDoor
open Nc
def byteAt (s : ByteArray) (k : Nat) : UInt8 := s.data.toList.getD k 0
theorem byteAt_eq (s : ByteArray) (k : Nat) (h : k < s.size) : byteAt s k = s[k] := by
  unfold byteAt
  rw [List.getD_eq_getElem?_getD, List.getElem?_eq_getElem (by simpa using h)]; rfl
/-- How many signs stand ahead of place k, and where the last one of them does. -/
def cntAt (s : ByteArray) : Nat → Nat
  | 0 => 0
  | k + 1 => if (byteAt s k).toNat = 64 then cntAt s k + 1 else cntAt s k
def lastAt (s : ByteArray) : Nat → Nat
  | 0 => 0
  | k + 1 => if (byteAt s k).toNat = 64 then k else lastAt s k
theorem cntAt_le (s : ByteArray) : ∀ k, cntAt s k ≤ k
  | 0 => Nat.le_refl _
  | k + 1 => by
    have := cntAt_le s k
    unfold cntAt
    split <;> omega
theorem lastAt_lt (s : ByteArray) : ∀ k, 0 < cntAt s k → lastAt s k < k
  | 0, h => absurd h (Nat.lt_irrefl 0)
  | k + 1, h => by
    unfold cntAt at h
    unfold lastAt
    split
    · omega
    · rename_i hc
      rw [if_neg hc] at h
      have := lastAt_lt s k h
      omega
theorem lastAt_is (s : ByteArray) : ∀ k, 0 < cntAt s k → (byteAt s (lastAt s k)).toNat = 64
  | 0, h => absurd h (Nat.lt_irrefl 0)
  | k + 1, h => by
    unfold cntAt at h
    unfold lastAt
    split
    · assumption
    · rename_i hc
      rw [if_neg hc] at h
      exact lastAt_is s k h
theorem lastAt_le (s : ByteArray) : ∀ k, lastAt s k ≤ k
  | 0 => Nat.le_refl _
  | k + 1 => by
    have := lastAt_le s k
    unfold lastAt
    split <;> omega
def cutOk (s : ByteArray) : Bool := decide (cntAt s s.size = 1)
def cutL (s : ByteArray) : ByteArray := s.extract 0 (lastAt s s.size)
def cutD (s : ByteArray) : ByteArray := s.extract (lastAt s s.size + 1) s.size
/-- The bytes that an atom may hold beside letters and digits. -/
def marks : List UInt8 := [33, 35, 36, 37, 38, 39, 42, 43, 45, 47, 61, 63, 94, 95, 96, 123, 124, 125, 126]
def alnum (b : UInt8) : Bool := (decide (97 ≤ (low b).toNat) && decide ((low b).toNat ≤ 122)) || (decide (48 ≤ (low b).toNat) && decide ((low b).toNat ≤ 57))
def atomB (b : UInt8) : Bool := alnum b || marks.contains b
def wordB (x : ByteArray) : Bool := decide (0 < x.size) && x.data.toList.all atomB
def localB (s : ByteArray) : Bool := (cuts s 0 0).all wordB && decide (s.size ≤ 100)
/-- A mailbox of which the statements speak. -/
def boxB (s : ByteArray) : Bool := cutOk s && localB (cutL s) && nameB (cutD s)
theorem wordB_byte {x : ByteArray} (h : wordB x = true) (j : Nat) (hj : j < x.size) : atomB x[j] = true := by
  unfold wordB at h
  simp only [Bool.and_eq_true, List.all_eq_true] at h
  exact h.2 _ (List.getElem_mem (l := x.data.toList) (n := j) (by simpa using hj))
theorem wordB_pos {x : ByteArray} (h : wordB x = true) : 0 < x.size := by
  unfold wordB at h
  simp only [Bool.and_eq_true, decide_eq_true_eq] at h
  exact h.1
theorem wordB_at {s : ByteArray} {fr e : Nat} (he : e ≤ s.size) (h : wordB (s.extract fr e) = true) (j : Nat) (h1 : fr ≤ j) (h2 : j < e) : atomB (s[j]'(by omega)) = true := by
  have hsz := cut_size s fr e he
  have := wordB_byte h (j - fr) (by omega)
  rw [ByteArray.getElem_extract] at this
  simpa [show fr + (j - fr) = j by omega] using this
theorem cuts_words (s : ByteArray) : ∀ (m fr i : Nat), s.size - i = m → fr ≤ i → i ≤ s.size → (∀ j (hj : j < s.size), fr ≤ j → j < i → s[j].toNat ≠ 46) → (cuts s fr i).all wordB = true →
    ∀ j (hj : j < s.size), fr ≤ j → (atomB s[j] = true ∨ s[j].toNat = 46) ∧ (s[j].toNat = 46 → fr < j ∧ (s[j - 1]'(by omega)).toNat ≠ 46 ∧ j + 1 < s.size) := by
  intro m
  induction m with
  | zero =>
    intro fr i hm hfi hi hn h j hj hfj
    obtain rfl : i = s.size := by omega
    rw [cuts, dif_neg (by omega)] at h
    simp only [List.all_cons, List.all_nil, Bool.and_true] at h
    exact ⟨.inl (wordB_at (Nat.le_refl _) h j hfj hj), fun e => absurd e (hn j hj hfj hj)⟩
  | succ m ih =>
    intro fr i hm hfi hi hn h j hj hfj
    have hlt : i < s.size := by omega
    rw [cuts, dif_pos hlt] at h
    by_cases hd : s[i].toNat = 46
    · rw [if_pos hd] at h
      simp only [List.all_cons, Bool.and_eq_true] at h
      obtain ⟨e, rest, hc, h1, h2⟩ := cuts_head s _ (i + 1) (i + 1) rfl (by omega)
      have hpos := wordB_pos h.1
      rw [cut_size s fr i (by omega)] at hpos
      have h3 := h.2
      rw [hc] at h3
      simp only [List.all_cons, Bool.and_eq_true] at h3
      have hpos2 := wordB_pos h3.1
      rw [cut_size s (i + 1) e h2] at hpos2
      by_cases hji : j < i
      · exact ⟨.inl (wordB_at (by omega) h.1 j hfj hji), fun e => absurd e (hn j hj hfj hji)⟩
      · by_cases hje : j = i
        · subst hje
          exact ⟨.inr hd, fun _ => ⟨by omega, hn (j - 1) (by omega) (by omega) (by omega), by omega⟩⟩
        · have := ih (i + 1) (i + 1) (by omega) (Nat.le_refl _) (by omega) (fun j _ h1 h2 => by omega) h.2 j hj (by omega)
          exact ⟨this.1, fun e => ⟨by have := (this.2 e).1; omega, (this.2 e).2⟩⟩
    · rw [if_neg hd] at h
      refine ih fr (i + 1) (by omega) (by omega) (by omega) (fun j hj h1 h2 => ?_) h j hj hfj
      by_cases hje : j = i
      · subst hje; exact hd
      · exact hn j hj h1 (by omega)
/-- Words with single dots between. -/
structure WordsOk (A : List UInt8) : Prop where
  pos : 0 < A.length
  byte : ∀ j (h : j < A.length), atomB A[j] = true ∨ A[j].toNat = 46
  dot : ∀ j (h : j < A.length), A[j].toNat = 46 → 0 < j ∧ (A[j - 1]'(by omega)).toNat ≠ 46 ∧ j + 1 < A.length
theorem words_ok (s : ByteArray) (h : (cuts s 0 0).all wordB = true) : WordsOk s.data.toList := by
  have hc := cuts_words s _ 0 0 rfl (Nat.le_refl _) (Nat.zero_le _) (fun j _ _ h => absurd h (Nat.not_lt_zero _)) h
  have e0 : s.data.toList.length = s.size := rfl
  refine ⟨?_, fun j hj => (hc j hj (Nat.zero_le _)).1, fun j hj hd => ?_⟩
  · obtain ⟨e, rest, h1, _, h2⟩ := cuts_head s _ 0 0 rfl (Nat.zero_le _)
    rw [h1] at h
    simp only [List.all_cons, Bool.and_eq_true] at h
    have := wordB_pos h.1
    rw [cut_size s 0 e h2] at this
    omega
  · exact (hc j hj (Nat.zero_le _)).2 hd
theorem atom_at : ∀ b : UInt8, (atomB b || decide (b.toNat = 46)) = true → atB b = true ∧ b.toNat ≠ 34 ∧ b.toNat ≠ 92 ∧ b.toNat ≠ 64 := forall_u8 _ (by decide +kernel)
theorem pAtom_all (D : List UInt8) : ∀ (A acc : List UInt8), (∀ b ∈ A, atB b = true ∧ b.toNat ≠ 92) → pAtom (A ++ 64 :: D) acc = some (acc ++ A, 64 :: D)
  | [], acc, _ => by
    rw [List.nil_append, pAtom_at (by decide), if_neg (by decide), List.append_nil]
  | b :: A, acc, h => by
    have hb := h b (List.mem_cons_self ..)
    rw [List.cons_append, pAtom_at hb.2, if_pos hb.1, pAtom_all D A _ (fun x hx => h x (List.mem_cons_of_mem _ hx)), List.append_assoc]
    rfl
theorem two_at (A : List UInt8) (j : Nat) (h : hasAt ⟨A.toArray⟩ twoDots j = true) : A[j]? = some 46 ∧ A[j + 1]? = some 46 := by
  unfold hasAt at h
  have h := beq_iff_eq.1 h
  have e1 : twoDots.size = 2 := rfl
  rw [ByteArray.toList_eq, ByteArray.toList_eq, e1] at h
  have e2 : ((⟨A.toArray⟩ : ByteArray).extract j (j + 2)).data.toList = (A.take (j + 2)).drop j := by
    rw [ByteArray.data_extract, Array.toList_extract, List.extract_eq_take_drop, List.take_drop]
    rw [show j + (j + 2 - j) = j + 2 by omega]
  rw [e2] at h
  have h0 := congrArg (fun l : List UInt8 => l[0]?) h
  have h1 := congrArg (fun l : List UInt8 => l[1]?) h
  simp only [List.getElem?_drop, List.getElem?_take] at h0 h1
  rw [if_pos (by omega)] at h0 h1
  exact ⟨h0, h1⟩
theorem words_dots {A : List UInt8} (h : WordsOk A) : badDots A = false := by
  have hp := h.pos
  unfold badDots
  rw [Bool.or_eq_false_iff, Bool.or_eq_false_iff]
  refine ⟨⟨?_, ?_⟩, ?_⟩
  · rw [List.head?_eq_getElem?, List.getElem?_eq_getElem hp]
    simp only [Option.any_some, decide_eq_false_iff_not]
    intro e
    have := (h.dot 0 hp e).1
    omega
  · rw [List.getLast?_eq_getElem?, List.getElem?_eq_getElem (by omega)]
    simp only [Option.any_some, decide_eq_false_iff_not]
    intro e
    have := (h.dot (A.length - 1) (by omega) e).2.2
    omega
  · refine List.any_eq_false.2 fun j hj hc => ?_
    obtain ⟨h0, h1⟩ := two_at A j hc
    obtain ⟨l1, e1⟩ := List.getElem?_eq_some_iff.1 h1
    obtain ⟨l0, e0⟩ := List.getElem?_eq_some_iff.1 h0
    have := (h.dot (j + 1) l1 (by rw [e1]; rfl)).2.1
    simp only [Nat.add_sub_cancel] at this
    rw [e0] at this
    exact this rfl
theorem cut_lists (s : ByteArray) (h : cutOk s = true) : s.data.toList = (cutL s).data.toList ++ 64 :: (cutD s).data.toList ∧ s.size = (cutL s).size + 1 + (cutD s).size := by
  have h := of_decide_eq_true h
  have h1 := lastAt_lt s s.size (by omega)
  have h2 := lastAt_is s s.size (by omega)
  unfold cutL cutD
  generalize lastAt s s.size = n at *
  rw [byteAt_eq s n h1] at h2
  have h3 : s[n] = 64 := UInt8.toNat_inj.1 h2
  refine ⟨?_, ?_⟩
  · have e1 : (s.extract 0 n).data.toList = s.data.toList.take n := by
      rw [ByteArray.data_extract, Array.toList_extract, List.extract_eq_take_drop]
      simp
    have e2 : (s.extract (n + 1) s.size).data.toList = s.data.toList.drop (n + 1) := by
      rw [ByteArray.data_extract, Array.toList_extract, List.extract_eq_take_drop, List.take_of_length_le]
      rw [List.length_drop]
      show s.size - (n + 1) ≤ _
      omega
    rw [e1, e2, ← h3, ← drop_bytes s n h1, List.take_append_drop]
  · rw [cut_size s 0 n (by omega), cut_size s (n + 1) s.size (Nat.le_refl _)]
    omega
theorem ok_sign : ∀ b : UInt8, okByte b = true → b.toNat ≠ 64 := forall_u8 _ (by decide +kernel)
theorem name_sign (s : ByteArray) (h : nameB s = true) : signL s.data.toList = false := by
  unfold nameB at h
  simp only [Bool.and_eq_true] at h
  have hall := cuts_all s _ 0 0 rfl (Nat.le_refl _) (Nat.zero_le _) h.1.1
  refine List.any_eq_false.2 fun b hb hc => ?_
  obtain ⟨j, hj, rfl⟩ := List.getElem_of_mem hb
  have hc := of_decide_eq_true hc
  rcases hall j hj (Nat.zero_le _) with h | h
  · exact ok_sign _ h hc
  · have e : s[j] = s.data.toList[j] := rfl
    rw [e] at h
    omega
theorem boxB_parts {s : ByteArray} (h : boxB s = true) : cutOk s = true ∧ localB (cutL s) = true ∧ nameB (cutD s) = true := by
  unfold boxB at h
  simp only [Bool.and_eq_true] at h
  exact ⟨h.1.1, h.1.2, h.2⟩
theorem boxB_parse (s : ByteArray) (h : boxB s = true) : parseS s = some ((cutL s).data.toList, (cutD s).data.toList) := by
  obtain ⟨h1, h2, h3⟩ := boxB_parts h
  obtain ⟨e1, _⟩ := cut_lists s h1
  unfold localB at h2
  rw [Bool.and_eq_true] at h2
  have hw := words_ok _ h2.1
  have hsg := name_sign _ h3
  have hv : dnvL (cutD s).data.toList = true := by
    have hf := nameB_facts _ h3
    have hp := hf.pos
    have hval := hf.valid
    unfold dnv at hval
    rw [if_neg (by omega)] at hval
    unfold dnvL
    rw [if_neg (fun e => by have := congrArg List.length e; have e2 : (cutD s).data.toList.length = (cutD s).size := rfl; simp only [List.length_nil] at this; omega)]
    exact hval
  have hA := words_dots hw
  unfold parseS
  rw [e1]
  generalize (cutL s).data.toList = A at *
  generalize (cutD s).data.toList = D at *
  have hbyte : ∀ b ∈ A, atB b = true ∧ b.toNat ≠ 92 ∧ b.toNat ≠ 34 := fun b hb => by
    obtain ⟨j, hj, rfl⟩ := List.getElem_of_mem hb
    have := atom_at A[j] (by rcases hw.byte j hj with h | h <;> simp [h])
    exact ⟨this.1, this.2.2.1, this.2.1⟩
  have hne : A ≠ [] := List.length_pos_iff.1 hw.pos
  have hpa := pAtom_all D A [] (fun b hb => ⟨(hbyte b hb).1, (hbyte b hb).2.1⟩)
  rw [List.nil_append] at hpa
  have hrest : pAtoms A (64 :: D) = some (A, D) := by
    unfold pAtoms
    rw [if_neg hne, hA, if_neg (by decide), pRest_cons, if_pos (by decide), hv, hsg]
    rfl
  match A, hne with
  | c :: r, _ =>
    have hc := hbyte c (List.mem_cons_self ..)
    rw [List.cons_append, pBox_cons, if_neg hc.2.2]
    rw [List.cons_append] at hpa
    rw [hpa]
    exact hrest
theorem boxB_of (s : ByteArray) (h : boxB s = true) : boxOf s = (cutL s, lowS (cutD s)) := by
  unfold boxOf
  rw [boxB_parse s h]
  simp
theorem boxB_fit (s : ByteArray) (h : boxB s = true) : FitBox s := by
  obtain ⟨h1, h2, h3⟩ := boxB_parts h
  obtain ⟨_, e2⟩ := cut_lists s h1
  have hp := boxB_parse s h
  have ho := boxB_of s h
  have hf := nameB_facts _ h3
  have hs := hf.size
  unfold localB at h2
  rw [Bool.and_eq_true, decide_eq_true_eq] at h2
  have := h2.2
  refine ⟨by omega, ⟨_, _, hp⟩, ?_, ?_⟩
  · rw [ho]; exact lowS_fit _ h3
  · rw [ho]; show (cutL s).size ≤ 1000; omega
end Go.Proofs.YtblabjfjhlablaaGreatDoor
