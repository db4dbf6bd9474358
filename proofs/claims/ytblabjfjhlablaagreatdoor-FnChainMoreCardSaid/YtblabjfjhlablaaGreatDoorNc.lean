/- Plain laws: a search in a sorted, pruned list finds just what some element of the list matches; names compared from behind by their labels are such a case. -/
namespace Go.Proofs.YtblabjfjhlablaaGreatDoor.Nc

/-- What a search in pruned constraints rests on. -/
structure Laminar {α β : Type} (cmp : α → α → Int) (sub : α → α → Bool) (cmpT : α → β → Int) (mat : α → β → Bool) : Prop where
  subMat : ∀ a b s, sub a b = true → mat b s = true → mat a s = true
  convex : ∀ a b c, ¬ cmp b a < 0 → ¬ cmp c b < 0 → sub a c = true → sub a b = true
  convexT : ∀ a b s, ¬ cmp b a < 0 → cmpT b s < 0 → mat a s = true → sub a b = true
  ahead : ∀ a s, mat a s = true → ¬ 0 < cmpT a s
  exact : ∀ a s, cmpT a s = 0 → mat a s = true
  mono : ∀ a b s, ¬ cmp b a < 0 → cmpT b s < 0 → cmpT a s < 0
  monoUp : ∀ a b s, ¬ cmp b a < 0 → 0 < cmpT a s → 0 < cmpT b s

section
variable {α β : Type}

/-- What is kept behind the last one kept. -/
def pruneFrom (sub : α → α → Bool) : α → List α → List α
  | _, [] => []
  | last, x :: xs => if sub last x then pruneFrom sub last xs else x :: pruneFrom sub x xs

def prune (sub : α → α → Bool) : List α → List α
  | [] => []
  | x :: xs => x :: pruneFrom sub x xs

/-- The search in the pruned list: the first that is not ahead of the target, if it is the target; else the one ahead of it. -/
def searched [Inhabited α] (cmpT : α → β → Int) (mat : α → β → Bool) (p : List α) (s : β) : Bool :=
  if p.length = 0 then false else
  if p.countP (fun x => decide (cmpT x s < 0)) < p.length ∧ cmpT p[p.countP (fun x => decide (cmpT x s < 0))]! s = 0 then true
  else if p.countP (fun x => decide (cmpT x s < 0)) = 0 then mat p[0]! s else mat p[p.countP (fun x => decide (cmpT x s < 0)) - 1]! s

variable {cmp : α → α → Int} {sub : α → α → Bool} {cmpT : α → β → Int} {mat : α → β → Bool}

theorem pruneFrom_any (L : Laminar cmp sub cmpT mat) (s : β) : ∀ (l : List α) (last : α), (mat last s || (pruneFrom sub last l).any (mat · s)) = (mat last s || l.any (mat · s))
  | [], _ => rfl
  | x :: xs, last => by
    unfold pruneFrom
    by_cases h : sub last x = true
    · rw [if_pos h, pruneFrom_any L s xs last, List.any_cons]
      cases hm : mat x s
      · simp
      · have := L.subMat _ _ _ h hm; simp [this]
    · rw [if_neg h, List.any_cons, List.any_cons, pruneFrom_any L s xs x]

theorem prune_any (L : Laminar cmp sub cmpT mat) (s : β) (l : List α) : (prune sub l).any (mat · s) = l.any (mat · s) := by
  cases l with
  | nil => rfl
  | cons x xs => simp only [prune, List.any_cons]; exact pruneFrom_any L s xs x

theorem pruneFrom_sub : ∀ (l : List α) (last : α), (pruneFrom sub last l).Sublist l
  | [], _ => .slnil
  | x :: xs, last => by
    unfold pruneFrom
    split
    · exact (pruneFrom_sub xs last).cons x
    · exact (pruneFrom_sub xs x).cons_cons x

theorem prune_sub (l : List α) : (prune sub l).Sublist l := by
  cases l with
  | nil => exact .slnil
  | cons x xs => exact (pruneFrom_sub xs x).cons_cons x

/-- Nothing kept lies in one kept ahead of it. -/
theorem pruneFrom_anti (L : Laminar cmp sub cmpT mat) : ∀ (l : List α) (last : α), (last :: l).Pairwise (fun a b => ¬ cmp b a < 0) → (last :: pruneFrom sub last l).Pairwise (fun a b => sub a b = false)
  | [], _, _ => by simp [pruneFrom]
  | x :: xs, last, h => by
    unfold pruneFrom
    by_cases hs : sub last x = true
    · rw [if_pos hs]
      refine pruneFrom_anti L xs last ?_
      rw [List.pairwise_cons] at h ⊢
      obtain ⟨h1, h2⟩ := h
      rw [List.pairwise_cons] at h2
      exact ⟨fun a ha => h1 a (List.mem_cons_of_mem _ ha), h2.2⟩
    · rw [if_neg hs]
      rw [List.pairwise_cons] at h
      obtain ⟨h1, h2⟩ := h
      have ih := pruneFrom_anti L xs x h2
      rw [List.pairwise_cons]
      refine ⟨fun a ha => ?_, ih⟩
      rcases List.mem_cons.1 ha with rfl | ha
      · simpa using hs
      · have hx : a ∈ xs := (pruneFrom_sub xs x).subset ha
        cases hc : sub last a with
        | false => rfl
        | true =>
          refine absurd (L.convex last x a (h1 x (List.mem_cons_self ..)) ?_ hc) hs
          exact (List.pairwise_cons.1 h2).1 a hx

theorem prune_anti (L : Laminar cmp sub cmpT mat) (l : List α) (h : l.Pairwise (fun a b => ¬ cmp b a < 0)) : (prune sub l).Pairwise (fun a b => sub a b = false) := by
  cases l with
  | nil => exact .nil
  | cons x xs => exact pruneFrom_anti L xs x h

/-- A sorted list, cut where the elements stop being ahead of the target. -/
theorem countP_cut (p : α → Bool) : ∀ (l : List α), (∀ i j (hj : j < l.length), i ≤ j → p l[j] = true → ∀ hi : i < l.length, p l[i] = true) → ∀ i (hi : i < l.length), p l[i] = true ↔ i < l.countP p
  | [], _, i, hi => by simp at hi
  | a :: r, h, i, hi => by
    by_cases ha : p a = true
    · rw [List.countP_cons_of_pos ha]
      cases i with
      | zero =>
        show p a = true ↔ _
        exact ⟨fun _ => Nat.succ_pos _, fun _ => ha⟩
      | succ i =>
        have ih := countP_cut p r (fun x y hy hxy hp hx => h (x + 1) (y + 1) (Nat.succ_lt_succ hy) (by omega) hp (Nat.succ_lt_succ hx)) i (Nat.lt_of_succ_lt_succ hi)
        show p (r[i]'(Nat.lt_of_succ_lt_succ hi)) = true ↔ _
        rw [ih]
        exact ⟨fun h => Nat.succ_lt_succ h, fun h => Nat.lt_of_succ_lt_succ h⟩
    · have hall : ∀ j (hj : j < (a :: r).length), ¬ p (a :: r)[j] = true := fun j hj hp => ha (h 0 j hj (Nat.zero_le _) hp (Nat.succ_pos _))
      have h0 : (a :: r).countP p = 0 := by
        rw [List.countP_eq_zero]
        intro x hx
        obtain ⟨j, hj, rfl⟩ := List.getElem_of_mem hx
        exact hall j hj
      rw [h0]
      exact ⟨fun hp => absurd hp (hall i hi), fun hp => absurd hp (Nat.not_lt_zero _)⟩

theorem searched_eq [Inhabited α] (L : Laminar cmp sub cmpT mat) (s : β) (p : List α) (hs : p.Pairwise (fun a b => ¬ cmp b a < 0)) (ha : p.Pairwise (fun a b => sub a b = false)) :
    searched cmpT mat p s = p.any (mat · s) := by
  have hle : ∀ i j (hj : j < p.length) (hij : i < j), ¬ cmp p[j] (p[i]'(by omega)) < 0 := fun i j hj hij => List.pairwise_iff_getElem.1 hs i j (by omega) hj hij
  have han : ∀ i j (hj : j < p.length) (hij : i < j), sub (p[i]'(by omega)) p[j] = false := fun i j hj hij => List.pairwise_iff_getElem.1 ha i j (by omega) hj hij
  have cut := countP_cut (fun x => decide (cmpT x s < 0)) p (fun i j hj hij hp hi => by
    rcases Nat.lt_or_eq_of_le hij with h | h
    · simp only [decide_eq_true_eq] at hp ⊢
      exact L.mono _ _ _ (hle i j hj h) hp
    · subst h; exact hp)
  have hcl : p.countP (fun x => decide (cmpT x s < 0)) ≤ p.length := List.countP_le_length
  unfold searched
  generalize p.countP (fun x => decide (cmpT x s < 0)) = n at *
  simp only [decide_eq_true_eq] at cut
  by_cases h0 : p.length = 0
  · rw [if_pos h0]
    have : p = [] := List.eq_nil_of_length_eq_zero h0
    subst this; rfl
  · rw [if_neg h0]
    by_cases hf : n < p.length ∧ cmpT p[n]! s = 0
    · rw [if_pos hf]
      symm
      rw [List.any_eq_true]
      refine ⟨p[n]'hf.1, List.getElem_mem _, L.exact _ _ ?_⟩
      have := hf.2
      rwa [getElem!_pos p n hf.1] at this
    · rw [if_neg hf]
      -- nothing from n on is met
      have hge : ∀ j (hj : j < p.length), n ≤ j → mat p[j] s = false := by
        intro j hj hnj
        cases hm : mat p[j] s with
        | false => rfl
        | true =>
          exfalso
          refine L.ahead _ _ hm ?_
          have hn : n < p.length := by omega
          have h1 : ¬ cmpT p[n] s < 0 := fun h => by have := (cut n hn).1 h; omega
          have h2 : ¬ cmpT p[n] s = 0 := fun h => hf ⟨hn, by rw [getElem!_pos p n hn]; exact h⟩
          have h3 : 0 < cmpT p[n] s := by omega
          rcases Nat.lt_or_eq_of_le hnj with h | h
          · exact L.monoUp _ _ _ (hle n j hj h) h3
          · subst h; exact h3
      by_cases hn0 : n = 0
      · rw [if_pos hn0, getElem!_pos p 0 (by omega), hge 0 (by omega) (by omega)]
        symm
        rw [List.any_eq_false]
        intro x hx
        obtain ⟨j, hj, rfl⟩ := List.getElem_of_mem hx
        rw [hge j hj (by omega)]; simp
      · rw [if_neg hn0, getElem!_pos p (n - 1) (by omega)]
        cases hm : mat (p[n - 1]'(by omega)) s with
        | true =>
          symm
          rw [List.any_eq_true]
          exact ⟨_, List.getElem_mem _, hm⟩
        | false =>
          symm
          rw [List.any_eq_false]
          intro x hx
          obtain ⟨j, hj, rfl⟩ := List.getElem_of_mem hx
          by_cases hjn : n ≤ j
          · rw [hge j hj hjn]; simp
          · by_cases hje : j = n - 1
            · subst hje; rw [hm]; simp
            · intro hmj
              have hb : cmpT (p[n - 1]'(by omega)) s < 0 := (cut (n - 1) (by omega)).2 (by omega)
              have := L.convexT _ _ _ (hle j (n - 1) (by omega) (by omega)) hb hmj
              rw [han j (n - 1) (by omega) (by omega)] at this
              cases this

/-- The whole: whatever way the list was sorted. -/
theorem query_eq [Inhabited α] (L : Laminar cmp sub cmpT mat) (s : β) (l d : List α) (hp : d.Perm l) (hs : d.Pairwise (fun a b => ¬ cmp b a < 0)) :
    searched cmpT mat (prune sub d) s = l.any (mat · s) := by
  rw [searched_eq L s _ (hs.sublist (prune_sub d)) (prune_anti L d hs), prune_any L]
  exact hp.any_eq
end
end Go.Proofs.YtblabjfjhlablaaGreatDoor.Nc
namespace Go.Proofs.YtblabjfjhlablaaGreatDoor.Nc

def low (b : UInt8) : UInt8 := if 65 ≤ b ∧ b ≤ 90 then b + 32 else b
def tb (b : UInt8) : UInt8 := if b = 46 then 0 else low b

/-- The comparison of two names, each read from behind. -/
def cmpK : List UInt8 → List UInt8 → Int
  | [], [] => 0
  | [], _ :: _ => -1
  | _ :: _, [] => 1
  | x :: xs, y :: ys => if tb x = tb y then cmpK xs ys else if tb x < tb y then -1 else 1

/-- x stands at the head of y, whatever the case. -/
def preC : List UInt8 → List UInt8 → Bool
  | [], _ => true
  | _ :: _, [] => false
  | x :: xs, y :: ys => low x == low y && preC xs ys

/-- x (from behind) is a suffix of y by whole labels. -/
def sufK (x y : List UInt8) : Bool := preC x y && (x.getLast? == some 46 || x.length == y.length || y[x.length]? == some 46)

theorem forall_u8 (p : UInt8 → Prop) [DecidablePred p] (h : ∀ i : Fin 256, p (UInt8.ofNat i.val)) : ∀ x, p x := by
  intro x
  have := h ⟨x.toNat, x.toNat_lt⟩
  simpa using this

theorem low_dot : ∀ x : UInt8, low x = 46 → x = 46 := forall_u8 _ (by decide +kernel)
theorem low_dot' : low 46 = 46 := by decide
theorem tb_zero : ∀ x : UInt8, x ≠ 0 → tb x = 0 → x = 46 := forall_u8 _ (by decide +kernel)
theorem low_zero : ∀ x : UInt8, low x = 0 → x = 0 := forall_u8 _ (by decide +kernel)
theorem tb_of_low {x y : UInt8} (h : low x = low y) : tb x = tb y := by
  unfold tb
  by_cases hx : x = 46
  · subst hx; have := low_dot y (by rw [← h]; rfl); simp [this]
  · by_cases hy : y = 46
    · subst hy; exact absurd (low_dot x (by rw [h]; rfl)) hx
    · rw [if_neg hx, if_neg hy, h]
theorem low_of_tb {x y : UInt8} (hx : x ≠ 0) (hy : y ≠ 0) (h : tb x = tb y) : low x = low y := by
  unfold tb at h
  by_cases h1 : x = 46
  · rw [if_pos h1] at h
    by_cases h2 : y = 46
    · rw [h1, h2]
    · rw [if_neg h2] at h; exact absurd (low_zero y h.symm) hy
  · rw [if_neg h1] at h
    by_cases h2 : y = 46
    · rw [if_pos h2] at h; exact absurd (low_zero x h) hx
    · rwa [if_neg h2] at h

theorem cmpK_le : ∀ x y : List UInt8, cmpK x y ≤ 1 ∧ -1 ≤ cmpK x y
  | [], [] => by decide
  | [], _ :: _ => by simp [cmpK]
  | _ :: _, [] => by simp [cmpK]
  | x :: xs, y :: ys => by
    unfold cmpK
    split
    · exact cmpK_le xs ys
    · split <;> decide

theorem cmpK_refl : ∀ x : List UInt8, cmpK x x = 0
  | [] => rfl
  | x :: xs => by unfold cmpK; rw [if_pos rfl]; exact cmpK_refl xs

theorem lt_of_ne {a b : UInt8} (h : a ≠ b) (h2 : ¬ a < b) : b < a := by
  rw [UInt8.lt_iff_toNat_lt] at *
  have : a.toNat ≠ b.toNat := fun e => h (UInt8.toNat_inj.1 e)
  omega

/-- The order turned round. -/
theorem cmpK_swap : ∀ x y : List UInt8, cmpK y x = - cmpK x y
  | [], [] => rfl
  | [], _ :: _ => rfl
  | _ :: _, [] => rfl
  | x :: xs, y :: ys => by
    unfold cmpK
    by_cases h : tb x = tb y
    · rw [if_pos h, if_pos h.symm]; exact cmpK_swap xs ys
    · rw [if_neg h, if_neg (fun e => h e.symm)]
      by_cases h2 : tb x < tb y
      · rw [if_pos h2, if_neg]
        · rfl
        · rw [UInt8.lt_iff_toNat_lt] at *; omega
      · rw [if_neg h2, if_pos (lt_of_ne h h2)]

theorem cmpK_trans : ∀ x y z : List UInt8, cmpK x y ≤ 0 → cmpK y z ≤ 0 → cmpK x z ≤ 0 ∧ (cmpK x z = 0 → cmpK x y = 0 ∧ cmpK y z = 0)
  | [], [], _, _, h2 => ⟨h2, fun h => ⟨rfl, h⟩⟩
  | [], _ :: _, [], _, h2 => by simp [cmpK] at h2
  | [], _ :: _, _ :: _, _, _ => by simp [cmpK]
  | _ :: _, [], _, h1, _ => by simp [cmpK] at h1
  | _ :: _, _ :: _, [], _, h2 => by simp [cmpK] at h2
  | x :: xs, y :: ys, z :: zs, h1, h2 => by
    unfold cmpK at h1 h2 ⊢
    by_cases a : tb x = tb y
    · rw [if_pos a] at h1 ⊢
      by_cases b : tb y = tb z
      · rw [if_pos b] at h2 ⊢
        rw [if_pos (a.trans b)]
        exact cmpK_trans xs ys zs h1 h2
      · rw [if_neg b] at h2 ⊢
        rw [if_neg (by rw [a]; exact b), a]
        by_cases c : tb y < tb z
        · rw [if_pos c]; exact ⟨by decide, fun h => by simp at h⟩
        · rw [if_neg c] at h2; simp at h2
    · rw [if_neg a] at h1 ⊢
      by_cases c : tb x < tb y
      · by_cases b : tb y = tb z
        · rw [← b, if_neg a, if_pos c]; exact ⟨by decide, fun h => by simp at h⟩
        · rw [if_neg b] at h2
          by_cases d : tb y < tb z
          · have : tb x < tb z := by rw [UInt8.lt_iff_toNat_lt] at *; omega
            have hne : tb x ≠ tb z := by intro e; rw [e, UInt8.lt_iff_toNat_lt] at this; omega
            rw [if_neg hne, if_pos this]; exact ⟨by decide, fun h => by simp at h⟩
          · rw [if_neg d] at h2; simp at h2
      · rw [if_neg c] at h1; simp at h1

/-- A list without noughts. -/
def NoZ (x : List UInt8) : Prop := ∀ b ∈ x, b ≠ 0
theorem NoZ.tail {a : UInt8} {x : List UInt8} (h : NoZ (a :: x)) : NoZ x := fun b hb => h b (List.mem_cons_of_mem _ hb)
theorem NoZ.head {a : UInt8} {x : List UInt8} (h : NoZ (a :: x)) : a ≠ 0 := h a (List.mem_cons_self ..)

theorem preC_of_cmp : ∀ x y : List UInt8, NoZ x → NoZ y → cmpK x y = 0 → preC x y = true ∧ x.length = y.length
  | [], [], _, _, _ => by simp [preC]
  | [], _ :: _, _, _, h => by simp [cmpK] at h
  | _ :: _, [], _, _, h => by simp [cmpK] at h
  | x :: xs, y :: ys, hx, hy, h => by
    unfold cmpK at h
    by_cases a : tb x = tb y
    · rw [if_pos a] at h
      have := preC_of_cmp xs ys hx.tail hy.tail h
      have e := low_of_tb hx.head hy.head a
      simp [preC, e, this.1, this.2]
    · rw [if_neg a] at h; split at h <;> simp at h

theorem cmpK_of_preC : ∀ x y : List UInt8, preC x y = true → cmpK x y ≤ 0
  | [], [], _ => by decide
  | [], _ :: _, _ => by simp [cmpK]
  | _ :: _, [], h => by simp [preC] at h
  | x :: xs, y :: ys, h => by
    simp only [preC, Bool.and_eq_true, beq_iff_eq] at h
    unfold cmpK
    rw [if_pos (tb_of_low h.1)]
    exact cmpK_of_preC xs ys h.2

theorem preC_len : ∀ x y : List UInt8, preC x y = true → x.length ≤ y.length
  | [], _, _ => by simp
  | _ :: _, [], h => by simp [preC] at h
  | x :: xs, y :: ys, h => by
    simp only [preC, Bool.and_eq_true] at h
    have := preC_len xs ys h.2
    simp; omega

theorem preC_trans : ∀ x y z : List UInt8, preC x y = true → preC y z = true → preC x z = true
  | [], _, _, _, _ => rfl
  | _ :: _, [], _, h, _ => by simp [preC] at h
  | _ :: _, _ :: _, [], _, h => by simp [preC] at h
  | x :: xs, y :: ys, z :: zs, h1, h2 => by
    simp only [preC, Bool.and_eq_true, beq_iff_eq] at *
    exact ⟨h1.1.trans h2.1, preC_trans xs ys zs h1.2 h2.2⟩

/-- The same byte, whatever the case, behind the place where one list ends. -/
theorem preC_get : ∀ (x y : List UInt8) (i : Nat), preC x y = true → ∀ a, x[i]? = some a → ∃ b, y[i]? = some b ∧ low a = low b
  | [], _, _, _, _, h => by simp at h
  | _ :: _, [], _, h, _, _ => by simp [preC] at h
  | x :: xs, y :: ys, 0, h, a, ha => by
    simp only [preC, Bool.and_eq_true, beq_iff_eq] at h
    simp at ha
    exact ⟨y, by simp, by rw [← ha]; exact h.1⟩
  | x :: xs, y :: ys, i + 1, h, a, ha => by
    simp only [preC, Bool.and_eq_true, beq_iff_eq] at h
    obtain ⟨b, hb, hl⟩ := preC_get xs ys i h.2 a (by simpa using ha)
    exact ⟨b, by simpa using hb, hl⟩

theorem preC_dot {x y : List UInt8} {i : Nat} (h : preC x y = true) (hx : x[i]? = some 46) : y[i]? = some 46 := by
  obtain ⟨b, hb, hl⟩ := preC_get x y i h 46 hx
  rw [hb, low_dot b (by rw [← hl]; rfl)]

theorem preC_dot' {x y : List UInt8} {i : Nat} (h : preC x y = true) (hi : i < x.length) (hy : y[i]? = some 46) : x[i]? = some 46 := by
  obtain ⟨b, hb, hl⟩ := preC_get x y i h x[i] (List.getElem?_eq_getElem hi)
  rw [hy] at hb
  cases hb
  rw [List.getElem?_eq_getElem hi, low_dot x[i] (by rw [hl]; rfl)]

theorem getLast_at {x : List UInt8} : x.getLast? = x[x.length - 1]? := by rw [List.getLast?_eq_getElem?]

theorem sufK_iff {x y : List UInt8} : sufK x y = true ↔ preC x y = true ∧ (x.getLast? = some 46 ∨ x.length = y.length ∨ y[x.length]? = some 46) := by
  simp only [sufK, Bool.and_eq_true, Bool.or_eq_true, beq_iff_eq, or_assoc]

theorem sufK_trans {x y z : List UInt8} (hx : x ≠ []) (h1 : sufK x y = true) (h2 : sufK y z = true) : sufK x z = true := by
  rw [sufK_iff] at *
  obtain ⟨p1, c1⟩ := h1
  obtain ⟨p2, c2⟩ := h2
  refine ⟨preC_trans _ _ _ p1 p2, ?_⟩
  have l1 := preC_len _ _ p1
  have l2 := preC_len _ _ p2
  have hx0 : 0 < x.length := List.length_pos_iff.2 hx
  rcases c1 with c1 | c1 | c1
  · exact .inl c1
  · rcases c2 with c2 | c2 | c2
    · left
      rw [getLast_at] at c2 ⊢
      refine preC_dot' p1 (by omega) ?_
      rw [c1]; exact c2
    · exact .inr (.inl (c1.trans c2))
    · right; right; rw [c1]; exact c2
  · right; right; exact preC_dot p2 c1

/-- What lies between a and c, a at the head of c, has a at its head. -/
theorem preC_between : ∀ a b c : List UInt8, NoZ a → NoZ b → cmpK a b ≤ 0 → cmpK b c ≤ 0 → preC a c = true →
    preC a b = true ∧ (∀ v, b[a.length]? = some v → ∃ u, c[a.length]? = some u ∧ tb v ≤ tb u)
  | [], [], c, _, _, _, _, _ => by simp [preC]
  | [], y :: ys, [], _, _, _, h2, _ => by simp [cmpK] at h2
  | [], y :: ys, z :: zs, _, _, _, h2, _ => by
    refine ⟨rfl, fun v hv => ⟨z, by simp, ?_⟩⟩
    simp at hv
    subst hv
    unfold cmpK at h2
    by_cases e : tb y = tb z
    · rw [e]; exact UInt8.le_refl _
    · rw [if_neg e] at h2
      by_cases e2 : tb y < tb z
      · exact UInt8.le_of_lt e2
      · rw [if_neg e2] at h2; simp at h2
  | x :: xs, [], c, _, _, h1, _, _ => by simp [cmpK] at h1
  | x :: xs, y :: ys, [], _, _, _, _, h3 => by simp [preC] at h3
  | x :: xs, y :: ys, z :: zs, hx, hy, h1, h2, h3 => by
    simp only [preC, Bool.and_eq_true, beq_iff_eq] at h3
    have e3 := tb_of_low h3.1
    unfold cmpK at h1 h2
    have exy : tb x = tb y := by
      by_cases e : tb x = tb y
      · exact e
      · exfalso
        rw [if_neg e] at h1
        by_cases e1 : tb x < tb y
        · have e2 : tb y ≠ tb z := fun h => e (e3.trans h.symm)
          rw [if_neg e2] at h2
          by_cases e4 : tb y < tb z
          · rw [← e3] at e4
            rw [UInt8.lt_iff_toNat_lt] at e1 e4
            omega
          · rw [if_neg e4] at h2; simp at h2
        · rw [if_neg e1] at h1; simp at h1
    rw [if_pos exy] at h1
    rw [if_pos (exy.symm.trans e3)] at h2
    obtain ⟨p, q⟩ := preC_between xs ys zs hx.tail hy.tail h1 h2 h3.2
    have e := low_of_tb hx.head hy.head exy
    refine ⟨by simp [preC, e, p], fun v hv => ?_⟩
    obtain ⟨u, hu, hv2⟩ := q v (by simpa using hv)
    exact ⟨u, by simpa using hu, hv2⟩

theorem sufK_between {a b c : List UInt8} (ha : NoZ a) (hb : NoZ b) (h1 : cmpK a b ≤ 0) (h2 : cmpK b c ≤ 0) (h3 : sufK a c = true) : sufK a b = true := by
  rw [sufK_iff] at *
  obtain ⟨p, k⟩ := h3
  obtain ⟨p1, q⟩ := preC_between a b c ha hb h1 h2 p
  refine ⟨p1, ?_⟩
  have hl := preC_len _ _ p1
  by_cases hlen : a.length = b.length
  · exact .inr (.inl hlen)
  · have hlt : a.length < b.length := by omega
    obtain ⟨u, hu, hle⟩ := q b[a.length] (List.getElem?_eq_getElem hlt)
    rcases k with k | k | k
    · exact .inl k
    · rw [List.getElem?_eq_none (by omega)] at hu; cases hu
    · rw [k] at hu
      cases hu
      right; right
      rw [List.getElem?_eq_getElem hlt]
      congr 1
      refine tb_zero _ (hb _ (List.getElem_mem _)) ?_
      have : tb 46 = 0 := by decide
      rw [this] at hle
      rw [UInt8.le_iff_toNat_le] at hle
      exact UInt8.toNat_inj.1 (by simpa using hle)

theorem sufK_self_of_cmp {a b : List UInt8} (ha : NoZ a) (hb : NoZ b) (h : cmpK a b = 0) : sufK a b = true := by
  rw [sufK_iff]
  obtain ⟨p, l⟩ := preC_of_cmp a b ha hb h
  exact ⟨p, .inr (.inl l)⟩
end Go.Proofs.YtblabjfjhlablaaGreatDoor.Nc
