/- What spec says of names and constraints, in plain Lean; the queries answer so wherever it is not left open. -/
import Derived.Test.YtblabjfjhlablaaGreatDoorMp
namespace Go.Proofs.YtblabjfjhlablaaGreatDoor
open Nc
/-- Two names are the same, whatever their case. -/
def sameB (a b : ByteArray) : Bool := decide (lowS a = lowS b)
/-- A name has labels more ahead of another one. -/
def underB (s d : ByteArray) : Bool := if h : d.size + 1 < s.size then decide (s[s.size - d.size - 1].toNat = 46) && sameB (s.extract (s.size - d.size) s.size) d else false
def dotB (c : ByteArray) : Bool := if h : 1 < c.size then decide (c[0].toNat = 46) else false
/-- A dot and the name of a host. -/
def subB (c : ByteArray) : Bool := dotB c && nameB (c.extract 1 c.size)
/-- What a constraint says: 0 no, 1 yes, 2 not spoken of. -/
def dnsR (c s : ByteArray) : Nat := if c.size = 0 then 1 else if nameB c then (if sameB s c || underB s c then 1 else 0) else 2
def uriR (c s : ByteArray) : Nat := if subB c then (if underB s (c.extract 1 c.size) then 1 else 0) else if !nameB c || underB s c then 2 else if sameB s c then 1 else 0
def mailR (c a d : ByteArray) : Nat := if boxB c then (if decide (cutL c = a) && sameB (cutD c) d then 1 else 0) else uriR c d
def ipB : List UInt8 → List UInt8 → List UInt8 → Bool
  | a :: A, m :: M, s :: S => (s &&& m == a) && ipB A M S
  | [], _, [] => true
  | _, _, _ => false
def ipR (n : NetV) (a : List UInt8) : Nat := if ipB n.1 n.2 a then 1 else 0
def askIp (l : List NetV) (a : List UInt8) : Option Bool := if l = [] then none else some (l.any fun n => inN n.1 n.2 a)
def askL (l : List Nat) : Option Bool := if l = [] then none else some (l.contains 1)
def foundR (l : List Nat) : Nat := if l.contains 1 then 1 else if l.contains 2 then 2 else 0
def ruleR (p e : List Nat) : Nat := if foundR e = 1 ∨ (p ≠ [] ∧ foundR p = 0) then 1 else if foundR e = 2 ∨ (p ≠ [] ∧ foundR p = 2) then 2 else 0
def ruledR (p e : List Nat) : Nat := if p.contains 2 || e.contains 2 then 2 else ruleR p e
theorem foundR_le (l : List Nat) : foundR l ≤ 2 := by
  unfold foundR
  repeat' split
  all_goals omega
theorem ruledR_le (p e : List Nat) : ruledR p e ≤ 2 := by
  unfold ruledR ruleR
  repeat' split
  all_goals omega
theorem foundR_clean {l : List Nat} (h : l.contains 2 = false) : foundR l = if l.contains 1 then 1 else 0 := by
  unfold foundR
  rw [h]
  rfl
theorem ruledR_law (p e : List Nat) (P E : Option Bool) (hp : p.contains 2 = false → P = askL p) (he : e.contains 2 = false → E = askL e) :
    (ruledR p e = 1 → ruledOut P E = true) ∧ (ruledR p e = 0 → ruledOut P E = false) := by
  unfold ruledR
  cases h1 : p.contains 2 with
  | true => simp
  | false =>
    cases h2 : e.contains 2 with
    | true => simp
    | false =>
      rw [hp h1, he h2]
      unfold ruleR askL ruledOut
      rw [foundR_clean h1, foundR_clean h2]
      by_cases hpn : p = []
      · subst hpn
        by_cases hen : e = []
        · subst hen; simp
        · cases h3 : e.contains 1 <;> simp [hen]
      · by_cases hen : e = []
        · subst hen
          cases h3 : p.contains 1 <;> simp [hpn]
        · cases h3 : p.contains 1 <;> cases h4 : e.contains 1 <;> simp [hpn, hen]
/-- A query over what each constraint says. -/
theorem askL_map {α : Type} (l : List α) (r : α → Nat) (q : α → Bool) (h : ∀ c ∈ l, r c ≠ 2 → (r c = 1 ↔ q c = true)) (hc : (l.map r).contains 2 = false) :
    (if l = [] then none else some (l.any q)) = askL (l.map r) := by
  unfold askL
  by_cases hl : l = []
  · subst hl; rfl
  · rw [if_neg hl, if_neg (by simpa using hl)]
    congr 1
    have hno : ∀ c ∈ l, r c ≠ 2 := fun c hcm e => by
      have : (l.map r).contains 2 = true := by
        rw [List.contains_iff_mem]
        exact List.mem_map.2 ⟨c, hcm, e⟩
      rw [hc] at this; cases this
    rw [Bool.eq_iff_iff, List.any_eq_true, List.contains_iff_mem, List.mem_map]
    constructor
    · rintro ⟨c, h1, h2⟩
      exact ⟨c, h1, (h c h1 (hno c h1)).2 h2⟩
    · rintro ⟨c, h1, h2⟩
      exact ⟨c, h1, (h c h1 (hno c h1)).1 h2⟩
theorem preC_iff : ∀ x y : List UInt8, preC x y = true ↔ x.length ≤ y.length ∧ (y.take x.length).map low = x.map low
  | [], y => by simp [preC]
  | x :: xs, [] => by simp [preC]
  | x :: xs, y :: ys => by
    simp only [preC, Bool.and_eq_true, beq_iff_eq, preC_iff xs ys, List.length_cons, List.take_succ_cons, List.map_cons, List.cons.injEq, Nat.succ_le_succ_iff]
    constructor
    · rintro ⟨h1, h2, h3⟩; exact ⟨h2, h1.symm, h3⟩
    · rintro ⟨h1, h2, h3⟩; exact ⟨h2.symm, h1, h3⟩
theorem lowS_inj {a b : ByteArray} : lowS a = lowS b ↔ a.data.toList.map low = b.data.toList.map low := by
  constructor
  · intro h
    have := congrArg (fun s : ByteArray => s.data.toList) h
    simpa [lowS_list] using this
  · intro h
    unfold lowS
    rw [h]
theorem ext_list (s : ByteArray) (k : Nat) (_h : k ≤ s.size) : (s.extract k s.size).data.toList = s.data.toList.drop k := by
  rw [ByteArray.data_extract, Array.toList_extract, List.extract_eq_take_drop, List.take_of_length_le]
  rw [List.length_drop]
  show s.size - k ≤ _
  have e : s.data.toList.length = s.size := rfl
  omega
/-- The constraint at the name's end, whatever the case. -/
theorem preC_ends (c s : ByteArray) : preC c.data.toList.reverse s.data.toList.reverse = true ↔ c.size ≤ s.size ∧ lowS (s.extract (s.size - c.size) s.size) = lowS c := by
  have e1 : c.data.toList.length = c.size := rfl
  have e2 : s.data.toList.length = s.size := rfl
  rw [preC_iff, lowS_inj, ext_list s _ (by omega), List.length_reverse, List.length_reverse, e1, e2]
  constructor
  · rintro ⟨h1, h2⟩
    refine ⟨h1, ?_⟩
    have h3 := congrArg List.reverse h2
    rw [← List.map_reverse, ← List.map_reverse, List.reverse_reverse, List.take_reverse, List.reverse_reverse, e2] at h3
    exact h3
  · rintro ⟨h1, h2⟩
    refine ⟨h1, ?_⟩
    rw [List.take_reverse, List.map_reverse, List.map_reverse, e2, h2]
theorem get_rev (s : ByteArray) (k : Nat) (h : k < s.size) : s.data.toList.reverse[k]? = some (s[s.size - 1 - k]) := by
  have e2 : s.data.toList.length = s.size := rfl
  rw [List.getElem?_reverse (by omega), e2, List.getElem?_eq_getElem (by omega)]
  rfl
/-- What a query tells of one constraint that is not nothing. -/
theorem sufB_iff (c s : ByteArray) (hc : 0 < c.size) : sufB c s = true ↔ (c.size ≤ s.size ∧ lowS (s.extract (s.size - c.size) s.size) = lowS c) ∧ (c[0].toNat = 46 ∨ c.size = s.size ∨ ∃ h : c.size < s.size, (s[s.size - 1 - c.size]'(by omega)).toNat = 46) := by
  have e1 : c.data.toList.length = c.size := rfl
  have e2 : s.data.toList.length = s.size := rfl
  unfold sufB
  rw [sufK_iff, preC_ends, List.length_reverse, List.length_reverse, e1, e2]
  refine and_congr_right fun h => ?_
  refine or_congr ?_ (or_congr Iff.rfl ?_)
  · rw [List.getLast?_eq_getElem?, List.length_reverse, e1, get_rev c _ (by omega)]
    have e3 : c[c.size - 1 - (c.size - 1)]'(by omega) = c[0] := by simp
    rw [e3, Option.some.injEq]
    exact ⟨fun h => by rw [h]; rfl, fun h => UInt8.toNat_inj.1 h⟩
  · constructor
    · intro hk
      have hlt : c.size < s.size := by
        rcases Nat.lt_or_ge c.size s.size with h1 | h1
        · exact h1
        · rw [List.getElem?_eq_none (by rw [List.length_reverse, e2]; exact h1)] at hk; cases hk
      rw [get_rev s _ hlt, Option.some.injEq] at hk
      exact ⟨hlt, by rw [hk]; rfl⟩
    · rintro ⟨hlt, hk⟩
      rw [get_rev s _ hlt, Option.some.injEq]
      exact UInt8.toNat_inj.1 hk
theorem name_dot0 (s : ByteArray) (h : nameB s = true) (hp : 0 < s.size) : s[0].toNat ≠ 46 := by
  intro e
  unfold nameB at h
  simp only [Bool.and_eq_true] at h
  have h1 := h.1.1
  rw [cuts, dif_pos hp, if_pos e] at h1
  simp only [List.all_cons, Bool.and_eq_true] at h1
  have := labelB_size h1.1
  rw [cut_size s 0 0 (by omega)] at this
  omega
theorem same_size {a b : ByteArray} (h : lowS a = lowS b) : a.size = b.size := by
  have := congrArg ByteArray.size h
  rwa [lowS_size, lowS_size] at this
theorem ext_all (s : ByteArray) : s.extract 0 s.size = s := by
  apply ByteArray.ext
  rw [ByteArray.data_extract]
  exact Array.extract_size
/-- A name's query: the same, or under it. -/
theorem suf_name (c s : ByteArray) (hc : nameB c = true) (hs : nameB s = true) : sufB c s = (sameB s c || underB s c) := by
  have hcp := (nameB_facts c hc).pos
  have hsp := (nameB_facts s hs).pos
  have hc0 := name_dot0 c hc hcp
  have hs0 := name_dot0 s hs hsp
  rw [Bool.eq_iff_iff, sufB_iff c s hcp, Bool.or_eq_true]
  unfold sameB underB
  rcases Nat.lt_trichotomy c.size s.size with h | h | h
  · have hne : ¬ lowS s = lowS c := fun e => by have := same_size e; omega
    rw [decide_eq_false hne]
    by_cases h2 : c.size + 1 < s.size
    · rw [dif_pos h2]
      have e3 : s[s.size - c.size - 1] = s[s.size - 1 - c.size]'(by omega) := by congr 1; omega
      rw [e3]
      simp only [Bool.and_eq_true, decide_eq_true_eq, Bool.false_eq_true, false_or]
      unfold sameB
      rw [decide_eq_true_eq]
      constructor
      · rintro ⟨⟨_, h4⟩, h5⟩
        refine ⟨?_, h4⟩
        rcases h5 with h5 | h5 | ⟨_, h5⟩
        · exact absurd h5 hc0
        · omega
        · exact h5
      · rintro ⟨h4, h5⟩
        exact ⟨⟨by omega, h5⟩, .inr (.inr ⟨h, h4⟩)⟩
    · rw [dif_neg h2]
      simp only [Bool.false_eq_true, or_self, iff_false]
      rintro ⟨_, h5⟩
      rcases h5 with h5 | h5 | ⟨_, h5⟩
      · exact hc0 h5
      · omega
      · have e4 : s[s.size - 1 - c.size]'(by omega) = s[0] := by congr 1; omega
        rw [e4] at h5
        exact hs0 h5
  · rw [dif_neg (by omega)]
    simp only [Bool.false_eq_true, or_false, decide_eq_true_eq]
    have e0 : s.extract (s.size - c.size) s.size = s := by rw [h, Nat.sub_self, ext_all]
    rw [e0]
    exact ⟨fun x => x.1.2, fun x => ⟨⟨by omega, x⟩, .inr (.inl h)⟩⟩
  · have hne : ¬ lowS s = lowS c := fun e => by have := same_size e; omega
    rw [decide_eq_false hne, dif_neg (by omega)]
    simp only [Bool.false_eq_true, or_self, iff_false]
    rintro ⟨⟨h1, _⟩, _⟩
    omega
theorem low_dot46 : ∀ b : UInt8, (low b).toNat = 46 ↔ b.toNat = 46 := low_46
/-- A query by a dot and a name: labels more ahead. -/
theorem suf_dot (c s : ByteArray) (hc : subB c = true) (hs : nameB s = true) : sufB c s = underB s (c.extract 1 c.size) := by
  unfold subB at hc
  rw [Bool.and_eq_true] at hc
  have hd := hc.1
  unfold dotB at hd
  have h1 : 1 < c.size := by
    rcases Nat.lt_or_ge 1 c.size with h | h
    · exact h
    · rw [dif_neg (by omega)] at hd; cases hd
  rw [dif_pos h1] at hd
  have hd := of_decide_eq_true hd
  have hsp := (nameB_facts s hs).pos
  have hs0 := name_dot0 s hs hsp
  have hz : (c.extract 1 c.size).size = c.size - 1 := cut_size c 1 _ (Nat.le_refl _)
  rw [Bool.eq_iff_iff, sufB_iff c s (by omega)]
  unfold underB sameB
  simp only [hz]
  have ec : c.data.toList = c[0] :: (c.extract 1 c.size).data.toList := by
    rw [ext_list c 1 (by omega), ← drop_bytes c 0 (by omega)]; rfl
  have key : ∀ (hlt : c.size ≤ s.size), (lowS (s.extract (s.size - c.size) s.size) = lowS c ↔ (s[s.size - c.size]'(by omega)).toNat = 46 ∧ lowS (s.extract (s.size - (c.size - 1)) s.size) = lowS (c.extract 1 c.size)) := by
    intro hlt
    rw [lowS_inj, lowS_inj, ext_list s _ (by omega), ext_list s _ (by omega), drop_bytes s (s.size - c.size) (by omega), ec, List.map_cons, List.map_cons, List.cons.injEq]
    have e5 : s.size - c.size + 1 = s.size - (c.size - 1) := by omega
    rw [e5]
    refine and_congr_left fun _ => ?_
    have e6 : c[0] = 46 := UInt8.toNat_inj.1 hd
    rw [e6]
    constructor
    · intro h
      exact (low_dot46 _).1 (by rw [h]; rfl)
    · intro h
      have : s[s.size - c.size]'(by omega) = 46 := UInt8.toNat_inj.1 h
      rw [this]
  by_cases h2 : c.size ≤ s.size
  · by_cases h3 : c.size = s.size
    · rw [dif_neg (by omega)]
      simp only [Bool.false_eq_true, iff_false]
      rintro ⟨⟨_, h4⟩, _⟩
      have := ((key h2).1 h4).1
      have e4 : s[s.size - c.size]'(by omega) = s[0] := by congr 1; omega
      rw [e4] at this
      exact hs0 this
    · rw [dif_pos (by omega)]
      have e3 : s[s.size - (c.size - 1) - 1]'(by omega) = s[s.size - c.size]'(by omega) := by congr 1; omega
      rw [e3]
      simp only [Bool.and_eq_true, decide_eq_true_eq]
      rw [key h2]
      exact ⟨fun x => x.1.2, fun x => ⟨⟨h2, x⟩, .inl hd⟩⟩
  · rw [dif_neg (by omega)]
    simp only [Bool.false_eq_true, iff_false]
    rintro ⟨⟨h4, _⟩, _⟩
    omega
theorem list_lowS (s : ByteArray) : (lowS s).data.toList.reverse = (s.data.toList.reverse).map low := by rw [lowS_list, List.map_reverse]
theorem preC_low : ∀ x y : List UInt8, preC x (y.map low) = preC x y
  | [], _ => rfl
  | _ :: _, [] => rfl
  | x :: xs, y :: ys => by
    simp only [List.map_cons, preC, low_low, preC_low xs ys]
theorem sufB_low (c s : ByteArray) : sufB c (lowS s) = sufB c s := by
  unfold sufB
  rw [list_lowS]
  rw [Bool.eq_iff_iff, sufK_iff, sufK_iff, preC_low, List.length_map]
  refine and_congr_right fun _ => or_congr Iff.rfl (or_congr Iff.rfl ?_)
  rw [List.getElem?_map, Option.map_eq_some_iff]
  constructor
  · rintro ⟨a, h1, h2⟩
    rw [h1, low_dot a h2]
  · intro h
    exact ⟨46, h, rfl⟩
theorem dns_law (c s : ByteArray) (hs : nameB s = true) (h2 : dnsR c s ≠ 2) : dnsR c s = 1 ↔ (c.size == 0 || sufB c s) = true := by
  unfold dnsR at h2 ⊢
  by_cases h0 : c.size = 0
  · rw [if_pos h0, beq_iff_eq.2 h0]; simp
  · rw [if_neg h0] at h2 ⊢
    have e0 : (c.size == 0) = false := beq_eq_false_iff_ne.2 h0
    rw [e0, Bool.false_or]
    cases hc : nameB c with
    | false => rw [hc] at h2; simp at h2
    | true =>
      rw [if_pos rfl, suf_name c s hc hs]
      cases (sameB s c || underB s c) <;> simp
theorem uri_law (c s : ByteArray) (hs : nameB s = true) (h2 : uriR c s ≠ 2) : (uriR c s = 1 ↔ (c.size == 0 || sufB c s) = true) ∧ signL c.data.toList = false := by
  unfold uriR at h2 ⊢
  cases hd : subB c with
  | true =>
    rw [if_pos rfl]
    rw [suf_dot c s hd hs]
    unfold subB at hd
    rw [Bool.and_eq_true] at hd
    have hdd := hd.1
    unfold dotB at hdd
    have h1 : 1 < c.size := by
      rcases Nat.lt_or_ge 1 c.size with h | h
      · exact h
      · rw [dif_neg (by omega)] at hdd; cases hdd
    rw [dif_pos h1] at hdd
    have hdd := of_decide_eq_true hdd
    have e0 : (c.size == 0) = false := beq_eq_false_iff_ne.2 (by omega)
    rw [e0, Bool.false_or]
    refine ⟨by cases underB s (c.extract 1 c.size) <;> simp, ?_⟩
    have ec : c.data.toList = c[0] :: (c.extract 1 c.size).data.toList := by
      rw [ext_list c 1 (by omega), ← drop_bytes c 0 (by omega)]; rfl
    have hn := name_sign _ hd.2
    unfold signL at hn ⊢
    rw [ec, List.any_cons, hn, decide_eq_false (by omega)]; rfl
  | false =>
    rw [hd] at h2
    simp only [Bool.false_eq_true, if_false] at h2 ⊢
    cases hc : nameB c with
    | false => rw [hc] at h2; simp at h2
    | true =>
      rw [hc] at h2
      cases hu : underB s c with
      | true => rw [hu] at h2; simp at h2
      | false =>
        have hp := (nameB_facts c hc).pos
        have e0 : (c.size == 0) = false := beq_eq_false_iff_ne.2 (by omega)
        rw [suf_name c s hc hs, hu, e0]
        refine ⟨by cases sameB s c <;> simp, name_sign c hc⟩
theorem ipB_in : ∀ A M S : List UInt8, maskedB A M = true → ipB A M S = inN A M S
  | a :: A, m :: M, s :: S, h => by
    simp only [maskedB, Bool.and_eq_true, beq_iff_eq] at h
    simp only [ipB, inN, ipB_in A M S h.2]
    rw [h.1]
    congr 1
    rw [Bool.eq_iff_iff, beq_iff_eq, beq_iff_eq]
    exact eq_comm
  | [], [], [], _ => rfl
  | [], [], _ :: _, _ => rfl
  | [], _ :: _, _, h => by simp [maskedB] at h
  | _ :: _, [], _, h => by simp [maskedB] at h
  | _ :: _, _ :: _, [], _ => rfl
/-- What a check of mail tells of one constraint. -/
def boxMeet1 (c a d : ByteArray) : Bool := decide (parseOf c = some (a, d)) || (!hasSign c && (c.size == 0 || sufB c d))
theorem boxMeets_eq (l : List ByteArray) (a d : ByteArray) : boxMeets l a d = l.any (fun c => boxMeet1 c a d) := by
  unfold boxMeets isBox meets doms boxMeet1
  induction l with
  | nil => rfl
  | cons c l ih =>
    simp only [List.any_cons, List.filter_cons]
    cases hc : hasSign c with
    | true =>
      simp only [Bool.not_true, Bool.false_eq_true, if_false, Bool.false_and, Bool.or_false]
      rw [← ih, Bool.or_assoc]
    | false =>
      simp only [Bool.not_false, if_true, List.any_cons, Bool.true_and]
      rw [← ih]
      cases decide (parseOf c = some (a, d)) <;> simp [Bool.or_left_comm]
theorem mail_law (c a d : ByteArray) (hs : nameB d = true) (h2 : mailR c a d ≠ 2) : mailR c a d = 1 ↔ boxMeet1 c a (lowS d) = true := by
  unfold mailR at h2 ⊢
  unfold boxMeet1
  cases hb : boxB c with
  | true =>
    rw [if_pos rfl]
    obtain ⟨h1, h2, h3⟩ := boxB_parts hb
    have hsg : hasSign c = true := by
      obtain ⟨e1, _⟩ := cut_lists c h1
      show signL c.data.toList = true
      unfold signL
      rw [e1, List.any_append]
      simp
    have hpo : parseOf c = some (cutL c, lowS (cutD c)) := by
      unfold parseOf
      rw [if_pos hsg, boxB_parse c hb]
      simp
    rw [hpo, hsg]
    unfold sameB
    simp only [Bool.not_true, Bool.false_and, Bool.or_false, Option.some.injEq, Prod.mk.injEq]
    by_cases e1 : cutL c = a
    · by_cases e2 : lowS (cutD c) = lowS d
      · simp [e1, e2]
      · simp [e1, e2]
    · simp [e1]
  | false =>
    rw [hb] at h2
    simp only [Bool.false_eq_true, if_false] at h2 ⊢
    obtain ⟨h3, h4⟩ := uri_law c d hs h2
    have hsg : hasSign c = false := h4
    have hpo : parseOf c = none := by unfold parseOf; rw [if_neg (by rw [hsg]; decide)]
    rw [h3, hpo, hsg, sufB_low]
    simp
end Go.Proofs.YtblabjfjhlablaaGreatDoor
/- Chains in plain Lean: what spec says of a chain, and what is told of it; chains turned round, lengthened. -/
namespace Go.Proofs.YtblabjfjhlablaaGreatDoor
open Nc
def worstR (a b : Nat) : Nat := if a = 1 ∨ b = 1 then 1 else max a b
def worstL (l : List Nat) : Nat := l.foldl worstR 0
theorem worst_fold : ∀ (l : List Nat) (a : Nat), a ≤ 2 → (∀ x ∈ l, x ≤ 2) → l.foldl worstR a ≤ 2 ∧ (l.foldl worstR a = 1 ↔ a = 1 ∨ 1 ∈ l) ∧ (l.foldl worstR a = 0 ↔ a = 0 ∧ ∀ x ∈ l, x = 0)
  | [], a, ha, _ => by simp [ha]
  | b :: l, a, ha, hl => by
    have hb := hl b (List.mem_cons_self ..)
    have hw : worstR a b ≤ 2 ∧ (worstR a b = 1 ↔ a = 1 ∨ b = 1) ∧ (worstR a b = 0 ↔ a = 0 ∧ b = 0) := by
      unfold worstR
      split <;> omega
    obtain ⟨h1, h2, h3⟩ := worst_fold l (worstR a b) hw.1 (fun x hx => hl x (List.mem_cons_of_mem _ hx))
    rw [List.foldl_cons]
    refine ⟨h1, ?_, ?_⟩
    · rw [h2, hw.2.1, List.mem_cons]
      constructor
      · rintro ((h | h) | h)
        · exact .inl h
        · exact .inr (.inl h.symm)
        · exact .inr (.inr h)
      · rintro (h | h | h)
        · exact .inl (.inl h)
        · exact .inl (.inr h.symm)
        · exact .inr h
    · rw [h3, hw.2.2, List.forall_mem_cons, and_assoc]
theorem worstL_le {l : List Nat} (h : ∀ x ∈ l, x ≤ 2) : worstL l ≤ 2 := (worst_fold l 0 (by omega) h).1
theorem worstL_one {l : List Nat} (h : ∀ x ∈ l, x ≤ 2) : worstL l = 1 ↔ 1 ∈ l := by
  rw [worstL, (worst_fold l 0 (by omega) h).2.1]
  simp
theorem worstL_zero {l : List Nat} (h : ∀ x ∈ l, x ≤ 2) : worstL l = 0 ↔ ∀ x ∈ l, x = 0 := by
  rw [worstL, (worst_fold l 0 (by omega) h).2.2]
  simp
def dnsL (by_ : GC) (s : ByteArray) : Nat := ruledR ((by_.p 0).map (dnsR · s)) ((by_.e 0).map (dnsR · s))
def uriL (by_ : GC) (s : ByteArray) : Nat := ruledR ((by_.p 2).map (uriR · s)) ((by_.e 2).map (uriR · s))
def mailL (by_ : GC) (s : ByteArray) : Nat := ruledR ((by_.p 1).map (mailR · (cutL s) (cutD s))) ((by_.e 1).map (mailR · (cutL s) (cutD s)))
def ipL (by_ : GC) (a : List UInt8) : Nat := ruledR (by_.pn.map (ipR · a)) (by_.en.map (ipR · a))
def checkedL (by_ c : GC) : List Nat := (c.s 0).map (dnsL by_) ++ (c.s 2).map (uriL by_) ++ (c.s 1).map (mailL by_) ++ c.ad.map (ipL by_)
theorem checkedL_le (by_ c : GC) : ∀ x ∈ checkedL by_ c, x ≤ 2 := by
  intro x hx
  unfold checkedL at hx
  simp only [List.mem_append, List.mem_map] at hx
  rcases hx with ((⟨s, _, rfl⟩ | ⟨s, _, rfl⟩) | ⟨s, _, rfl⟩) | ⟨s, _, rfl⟩ <;> exact ruledR_le _ _
/-- A certificate of which the statements speak. -/
structure SpecC (c : GC) : Prop where
  dns : ∀ s ∈ c.s 0, nameB s = true
  host : ∀ s ∈ c.s 2, nameB s = true
  box : ∀ s ∈ c.s 1, boxB s = true
  pn : ∀ n ∈ c.pn, maskedB n.1 n.2 = true
  en : ∀ n ∈ c.en, maskedB n.1 n.2 = true
/-- What is said is not told otherwise. -/
def Rel (r : Nat) (b : Bool) : Prop := (r = 1 → b = true) ∧ (r = 0 → b = false)
theorem rel_any {α : Type} (l : List α) (f : α → Nat) (g : α → Bool) (h : ∀ x ∈ l, Rel (f x) (g x)) : (1 ∈ l.map f → l.any g = true) ∧ ((∀ x ∈ l.map f, x = 0) → l.any g = false) := by
  refine ⟨fun h1 => ?_, fun h1 => ?_⟩
  · obtain ⟨x, hx, e⟩ := List.mem_map.1 h1
    exact List.any_eq_true.2 ⟨x, hx, (h x hx).1 e⟩
  · refine List.any_eq_false.2 fun x hx => ?_
    rw [(h x hx).2 (h1 _ (List.mem_map.2 ⟨x, hx, rfl⟩))]
    decide
theorem rel_dns (by_ : GC) (s : ByteArray) (h : nameB s = true) : Rel (dnsL by_ s) (ruledOut (askDns (by_.p 0) s) (askDns (by_.e 0) s)) :=
  ruledR_law _ _ _ _ (fun hc => askL_map _ _ _ (fun c _ h2 => dns_law c s h h2) hc) (fun hc => askL_map _ _ _ (fun c _ h2 => dns_law c s h h2) hc)
theorem meets_low (l : List ByteArray) (s : ByteArray) : meets l (lowS s) = meets l s := by
  unfold meets
  congr 1
  funext c
  rw [sufB_low]
theorem askDns_low (l : List ByteArray) (s : ByteArray) : askDns l (lowS s) = askDns l s := by
  unfold askDns
  rw [meets_low]
theorem rel_uri (by_ : GC) (s : ByteArray) (h : nameB s = true) : Rel (uriL by_ s) (ruledOut (askDns (by_.p 2) (lowS s)) (askDns (by_.e 2) (lowS s))) := by
  rw [askDns_low, askDns_low]
  exact ruledR_law _ _ _ _ (fun hc => askL_map _ _ _ (fun c _ h2 => (uri_law c s h h2).1) hc) (fun hc => askL_map _ _ _ (fun c _ h2 => (uri_law c s h h2).1) hc)
theorem rel_mail (by_ : GC) (s : ByteArray) (h : boxB s = true) : Rel (mailL by_ s) (ruledOut (askMail (by_.p 1) (boxOf s).1 (boxOf s).2) (askMail (by_.e 1) (boxOf s).1 (boxOf s).2)) := by
  rw [boxB_of s h]
  unfold askMail
  simp only [boxMeets_eq]
  have hd := (boxB_parts h).2.2
  exact ruledR_law _ _ _ _ (fun hc => askL_map _ _ _ (fun c _ h2 => mail_law c _ _ hd h2) hc) (fun hc => askL_map _ _ _ (fun c _ h2 => mail_law c _ _ hd h2) hc)
theorem rel_ip (by_ : GC) (a : List UInt8) (hp : ∀ n ∈ by_.pn, maskedB n.1 n.2 = true) (he : ∀ n ∈ by_.en, maskedB n.1 n.2 = true) : Rel (ipL by_ a) (ruledOut (askIp by_.pn a) (askIp by_.en a)) := by
  have hq : ∀ n : NetV, maskedB n.1 n.2 = true → (ipR n a = 1 ↔ inN n.1 n.2 a = true) := fun n h => by
    unfold ipR
    rw [ipB_in _ _ _ h]
    cases inN n.1 n.2 a <;> simp
  exact ruledR_law _ _ _ _ (fun hc => askL_map _ _ _ (fun n hn _ => hq n (hp n hn)) hc) (fun hc => askL_map _ _ _ (fun n hn _ => hq n (he n hn)) hc)
theorem checked_law (X : IpKit) (hX : ∀ l a, X.ask l a = askIp l a) (by_ c : GC) (hb : SpecC by_) (hc : SpecC c) : Rel (worstL (checkedL by_ c)) (gBad X c by_) := by
  obtain ⟨a1, a2⟩ := rel_any (c.s 0) _ _ (fun s hs => rel_dns by_ s (hc.dns s hs))
  obtain ⟨b1, b2⟩ := rel_any (c.s 2) _ _ (fun s hs => rel_uri by_ s (hc.host s hs))
  obtain ⟨c1, c2⟩ := rel_any (c.s 1) _ _ (fun s hs => rel_mail by_ s (hc.box s hs))
  obtain ⟨d1, d2⟩ := rel_any c.ad _ _ (fun a _ => rel_ip by_ a hb.pn hb.en)
  unfold Rel gBad
  rw [worstL_one (checkedL_le by_ c), worstL_zero (checkedL_le by_ c)]
  unfold checkedL
  simp only [hX, List.mem_append, Bool.or_eq_true, Bool.or_eq_false_iff]
  refine ⟨?_, fun h => ?_⟩
  · rintro (((h | h) | h) | h)
    · exact .inl (.inl (.inl (a1 h)))
    · exact .inl (.inl (.inr (b1 h)))
    · exact .inl (.inr (c1 h))
    · exact .inr (d1 h)
  · exact ⟨⟨⟨a2 fun x hx => h x (.inl (.inl (.inl hx))), b2 fun x hx => h x (.inl (.inl (.inr hx)))⟩, c2 fun x hx => h x (.inl (.inr hx))⟩, d2 fun x hx => h x (.inr hx)⟩
/-- A chain as a list: some name of a certificate is refused by one behind it. -/
def refL (X : IpKit) : List GC → Bool
  | [] => false
  | c :: r => r.any (fun by_ => gBad X c by_) || refL X r
theorem refL_iff (X : IpKit) : ∀ l : List GC, refL X l = true ↔ ∃ i j, ∃ hj : j < l.length, ∃ hij : i < j, gBad X (l[i]'(by omega)) l[j] = true
  | [] => by simp [refL]
  | c :: r => by
    unfold refL
    rw [Bool.or_eq_true, refL_iff X r, List.any_eq_true]
    constructor
    · rintro (⟨b, hb, h⟩ | ⟨i, j, hj, hij, h⟩)
      · obtain ⟨j, hj, rfl⟩ := List.getElem_of_mem hb
        exact ⟨0, j + 1, by simpa using hj, by omega, by simpa using h⟩
      · exact ⟨i + 1, j + 1, by simpa using hj, by omega, by simpa using h⟩
    · rintro ⟨i, j, hj, hij, h⟩
      obtain ⟨j, rfl⟩ : ∃ j', j = j' + 1 := ⟨j - 1, by omega⟩
      simp only [List.length_cons] at hj
      cases i with
      | zero => exact .inl ⟨r[j], List.getElem_mem _, by simpa using h⟩
      | succ i => exact .inr ⟨i, j, by omega, by omega, by simpa using h⟩
theorem refL_refused (X : IpKit) (l : List GC) (cs : Nat → GC) (h : ∀ i, (hi : i < l.length) → cs i = l[i]) : refL X l = true ↔ gRefused X cs l.length := by
  rw [refL_iff]
  unfold gRefused
  constructor
  · rintro ⟨i, j, hj, hij, hb⟩
    exact ⟨i, j, hij, hj, by rw [h i (by omega), h j hj]; exact hb⟩
  · rintro ⟨i, j, hij, hj, hb⟩
    exact ⟨i, j, hj, hij, by rw [← h i (by omega), ← h j hj]; exact hb⟩
/-- What spec says of a chain. -/
def chainL : List GC → List Nat
  | [] => []
  | c :: r => r.map (fun by_ => worstL (checkedL by_ c)) ++ chainL r
theorem chainL_le : ∀ (l : List GC), ∀ x ∈ chainL l, x ≤ 2
  | [], x, h => by cases h
  | c :: r, x, h => by
    unfold chainL at h
    rcases List.mem_append.1 h with h | h
    · obtain ⟨b, _, rfl⟩ := List.mem_map.1 h
      exact worstL_le (checkedL_le b c)
    · exact chainL_le r x h
theorem chain_law0 (X : IpKit) (hX : ∀ l a, X.ask l a = askIp l a) : ∀ (l : List GC), (∀ c ∈ l, SpecC c) → (1 ∈ chainL l → refL X l = true) ∧ ((∀ x ∈ chainL l, x = 0) → refL X l = false)
  | [], _ => ⟨fun h => (by cases h), fun _ => rfl⟩
  | c :: r, hl => by
    obtain ⟨a1, a2⟩ := rel_any r (fun by_ => worstL (checkedL by_ c)) (fun by_ => gBad X c by_) (fun b hb => checked_law X hX b c (hl b (List.mem_cons_of_mem _ hb)) (hl c (List.mem_cons_self ..)))
    obtain ⟨b1, b2⟩ := chain_law0 X hX r (fun b hb => hl b (List.mem_cons_of_mem _ hb))
    unfold chainL refL
    rw [List.mem_append, Bool.or_eq_true, Bool.or_eq_false_iff]
    refine ⟨?_, fun h => ⟨a2 fun x hx => h x (List.mem_append.2 (.inl hx)), b2 fun x hx => h x (List.mem_append.2 (.inr hx))⟩⟩
    rintro (h | h)
    · exact .inl (a1 h)
    · exact .inr (b1 h)
/-- What spec says of a chain is what is told of it. -/
theorem chain_law (X : IpKit) (hX : ∀ l a, X.ask l a = askIp l a) (l : List GC) (hl : ∀ c ∈ l, SpecC c) : Rel (worstL (chainL l)) (refL X l) := by
  obtain ⟨h1, h2⟩ := chain_law0 X hX l hl
  unfold Rel
  rw [worstL_one (chainL_le l), worstL_zero (chainL_le l)]
  exact ⟨h1, h2⟩
theorem refL_append (X : IpKit) : ∀ a b : List GC, refL X (a ++ b) = (refL X a || refL X b || a.any (fun c => b.any (fun d => gBad X c d)))
  | [], b => by simp [refL]
  | c :: a, b => by
    rw [List.cons_append, refL, refL, List.any_append, refL_append X a b, List.any_cons]
    cases a.any (fun by_ => gBad X c by_) <;> cases b.any (fun by_ => gBad X c by_) <;> cases refL X a <;> cases refL X b <;> simp
/-- A certificate without names and constraints. -/
def GC.none_ : GC := { p := fun _ => [], e := fun _ => [], s := fun _ => [], pn := [], en := [], ad := [] }
theorem none_bad (X : IpKit) (hX : ∀ a, X.ask [] a = none) (c : GC) : gBad X c GC.none_ = false ∧ gBad X GC.none_ c = false := by
  refine ⟨?_, rfl⟩
  unfold gBad GC.none_ askDns askMail ruledOut
  simp [hX]
theorem refL_insert (X : IpKit) (hX : ∀ a, X.ask [] a = none) (a b : List GC) : refL X (a ++ GC.none_ :: b) = refL X (a ++ b) := by
  rw [refL_append, refL_append, refL]
  have h1 : b.any (fun by_ => gBad X GC.none_ by_) = false := List.any_eq_false.2 fun x _ => by rw [(none_bad X hX x).2]; decide
  have h2 : (fun c => (GC.none_ :: b).any (fun d => gBad X c d)) = fun c => b.any (fun d => gBad X c d) := by
    funext c
    rw [List.any_cons, (none_bad X hX c).1, Bool.false_or]
  rw [h1, h2, Bool.false_or]
theorem refL_behind (X : IpKit) (l : List GC) (m : GC) (h : refL X l = true) : refL X (l ++ [m]) = true := by
  rw [refL_append, h]; rfl
theorem refL_ahead (X : IpKit) (l : List GC) (m : GC) (h : refL X l = true) : refL X (m :: l) = true := by
  unfold refL
  rw [h, Bool.or_true]
/-- The same lists but for order and number. -/
structure SameC (c d : GC) : Prop where
  p : ∀ k x, k < 3 → (x ∈ c.p k ↔ x ∈ d.p k)
  e : ∀ k x, k < 3 → (x ∈ c.e k ↔ x ∈ d.e k)
  s : ∀ k x, k < 3 → (x ∈ c.s k ↔ x ∈ d.s k)
  pn : ∀ x, x ∈ c.pn ↔ x ∈ d.pn
  en : ∀ x, x ∈ c.en ↔ x ∈ d.en
  ad : ∀ x, x ∈ c.ad ↔ x ∈ d.ad
theorem any_same {α : Type} {l m : List α} (h : ∀ x, x ∈ l ↔ x ∈ m) (q : α → Bool) : l.any q = m.any q := by
  rw [Bool.eq_iff_iff, List.any_eq_true, List.any_eq_true]
  exact ⟨fun ⟨x, h1, h2⟩ => ⟨x, (h x).1 h1, h2⟩, fun ⟨x, h1, h2⟩ => ⟨x, (h x).2 h1, h2⟩⟩
theorem nil_same {α : Type} {l m : List α} (h : ∀ x, x ∈ l ↔ x ∈ m) : l = [] ↔ m = [] := by
  rw [List.eq_nil_iff_forall_not_mem, List.eq_nil_iff_forall_not_mem]
  exact ⟨fun k x hx => k x ((h x).2 hx), fun k x hx => k x ((h x).1 hx)⟩
theorem askDns_same {l m : List ByteArray} (h : ∀ x, x ∈ l ↔ x ∈ m) (s : ByteArray) : askDns l s = askDns m s := by
  unfold askDns meets
  rw [any_same h]
  simp only [nil_same h]
theorem askMail_same {l m : List ByteArray} (h : ∀ x, x ∈ l ↔ x ∈ m) (a d : ByteArray) : askMail l a d = askMail m a d := by
  unfold askMail
  rw [boxMeets_eq, boxMeets_eq, any_same h]
  simp only [nil_same h]
theorem askIp_same {l m : List NetV} (h : ∀ x, x ∈ l ↔ x ∈ m) (a : List UInt8) : askIp l a = askIp m a := by
  unfold askIp
  rw [any_same h]
  simp only [nil_same h]
theorem gBad_same (X : IpKit) (hX : ∀ l a, X.ask l a = askIp l a) {c c' b b' : GC} (hc : SameC c c') (hb : SameC b b') : gBad X c b = gBad X c' b' := by
  unfold gBad
  simp only [hX, askDns_same (fun x => hb.p 0 x (by omega)), askDns_same (fun x => hb.e 0 x (by omega)), askDns_same (fun x => hb.p 2 x (by omega)), askDns_same (fun x => hb.e 2 x (by omega)), askMail_same (fun x => hb.p 1 x (by omega)), askMail_same (fun x => hb.e 1 x (by omega)), askIp_same hb.pn, askIp_same hb.en]
  rw [any_same (fun x => hc.s 0 x (by omega)), any_same (fun x => hc.s 2 x (by omega)), any_same (fun x => hc.s 1 x (by omega)), any_same hc.ad]
theorem refL_same (X : IpKit) (hX : ∀ l a, X.ask l a = askIp l a) (f : GC → GC) : ∀ l : List GC, (∀ c ∈ l, SameC c (f c)) → refL X (l.map f) = refL X l
  | [], _ => rfl
  | c :: r, h => by
    unfold refL
    rw [List.map_cons]
    simp only
    rw [refL_same X hX f r (fun x hx => h x (List.mem_cons_of_mem _ hx)), List.any_map]
    congr 1
    have : ∀ x ∈ r, gBad X (f c) (f x) = gBad X c x := fun x hx => (gBad_same X hX (h c (List.mem_cons_self ..)) (h x (List.mem_cons_of_mem _ hx))).symm
    rw [Bool.eq_iff_iff, List.any_eq_true, List.any_eq_true]
    constructor
    · rintro ⟨x, h1, h2⟩
      exact ⟨x, h1, (this x h1).symm.trans h2⟩
    · rintro ⟨x, h1, h2⟩
      exact ⟨x, h1, (this x h1).trans h2⟩
end Go.Proofs.YtblabjfjhlablaaGreatDoor
