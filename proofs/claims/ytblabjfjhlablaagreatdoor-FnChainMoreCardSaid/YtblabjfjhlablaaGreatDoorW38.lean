/- What constraints of mail come to, in plain Lean; keys of mailboxes; rows of mailboxes. -/
import Derived.Test.YtblabjfjhlablaaGreatDoorW35
import Derived.Test.YtblabjfjhlablaaGreatDoorW18
import Derived.Maps.OwnSet
import Derived.DeepKeys4
namespace Go.Proofs.YtblabjfjhlablaaGreatDoor
open Go.RowKit Nc Go.Maps
theorem laidOut' : laidOutB Tryz.prog = true := by kernel_rfl
theorem law148 : Keyed Tryz.prog 148 := Keyed.of_law (deep_law_laid laidOut' (m := 9) (by omega) (of_decide_eq_true (by kernel_rfl)) (by kernel_rfl) (by kernel_rfl))
theorem cells148 : Tryz.prog.cellsOf 148 = 2 := by kernel_rfl
theorem cells9' : Tryz.prog.cellsOf 9 = 1 := by kernel_rfl
theorem key148 (a d : ByteArray) (ha : a.size ≤ 1000000) (hd : d.size ≤ 1000000) : ∃ kl, keyOf Tryz.prog 148 (.agg #[.string a, .string d]) = some kl := by
  have h1 : Tryz.prog.keyType 148 = true := by kernel_rfl
  have h2 : (Value.agg #[.string a, .string d]).formed Tryz.prog 148 = true := by
    simp [Value.formed, Tryz.underlying148, cells148]
  have hN : Tryz.prog.types.size ≠ 0 := of_decide_eq_true (by kernel_rfl)
  unfold keyOf
  generalize Tryz.prog.types.size = N at *
  obtain ⟨M, rfl⟩ := Nat.exists_eq_succ_of_ne_zero hN
  have ha' : a.size ≤ maxLen := by unfold maxLen; omega
  have hd' : d.size ≤ maxLen := by unfold maxLen; omega
  have key : Tryz.prog.keyLits (M + 1 + 1) 148 [.string a, .string d] = some [.string a.data.toList, .string d.data.toList] := by
    unfold Program.keyLits
    simp only [Tryz.underlying148, cells148]
    simp [Program.keyLits, Tryz.underlying9, cells9', ha', hd']
  rw [Tryz.underlying148]
  simp only [h1, h2, Bool.and_self, if_true]
  show ∃ kl, (Tryz.prog.keyLits (M + 1 + 1) 148 [.string a, .string d]).map (fun ls => Lit.string (keyBytes ls)) = some kl
  rw [key]
  exact ⟨_, rfl⟩
theorem pQuote_len : ∀ (m : Nat) (l acc : List UInt8), l.length ≤ m → ∀ x y, pQuote l acc = some (x, y) → x.length + y.length ≤ acc.length + l.length := by
  intro m
  induction m with
  | zero =>
    intro l acc hm x y h
    have : l = [] := List.eq_nil_of_length_eq_zero (by omega)
    subst this
    rw [pQuote_nil] at h; cases h
  | succ m ih =>
    intro l acc hm x y h
    match l with
    | [] => rw [pQuote_nil] at h; cases h
    | c :: r =>
      simp only [List.length_cons] at hm ⊢
      by_cases h1 : c.toNat = 34
      · rw [pQuote_end h1] at h
        simp only [Option.some.injEq, Prod.mk.injEq] at h
        obtain ⟨rfl, rfl⟩ := h
        omega
      · by_cases h2 : c.toNat = 92
        · match r with
          | [] => rw [pQuote_pair0 h2] at h; cases h
          | d :: r =>
            rw [pQuote_pair h2] at h
            simp only [List.length_cons] at hm ⊢
            split at h
            · have := ih r _ (by omega) x y h
              simp at this; omega
            · cases h
        · rw [pQuote_text h1 h2] at h
          split at h
          · have := ih r _ (by omega) x y h
            simp at this; omega
          · cases h
theorem pAtom_len : ∀ (m : Nat) (l acc : List UInt8), l.length ≤ m → ∀ x y, pAtom l acc = some (x, y) → x.length + y.length ≤ acc.length + l.length := by
  intro m
  induction m with
  | zero =>
    intro l acc hm x y h
    have : l = [] := List.eq_nil_of_length_eq_zero (by omega)
    subst this
    rw [pAtom_nil] at h
    simp only [Option.some.injEq, Prod.mk.injEq] at h
    obtain ⟨rfl, rfl⟩ := h
    simp
  | succ m ih =>
    intro l acc hm x y h
    match l with
    | [] =>
      rw [pAtom_nil] at h
      simp only [Option.some.injEq, Prod.mk.injEq] at h
      obtain ⟨rfl, rfl⟩ := h
      simp
    | c :: r =>
      simp only [List.length_cons] at hm ⊢
      by_cases h2 : c.toNat = 92
      · match r with
        | [] => rw [pAtom_pair0 h2] at h; cases h
        | d :: r =>
          rw [pAtom_pair h2] at h
          simp only [List.length_cons] at hm ⊢
          have := ih r _ (by omega) x y h
          simp at this; omega
      · rw [pAtom_at h2] at h
        split at h
        · have := ih r _ (by omega) x y h
          simp at this; omega
        · simp only [Option.some.injEq, Prod.mk.injEq] at h
          obtain ⟨rfl, rfl⟩ := h
          simp
theorem pRest_facts {acc rest a d : List UInt8} (h : pRest acc rest = some (a, d)) : a = acc ∧ d.length ≤ rest.length ∧ dnvL d = true ∧ signL d = false := by
  match rest, h with
  | c :: r, h =>
    rw [pRest_cons] at h
    split at h
    · split at h
      · rename_i hc
        simp only [Option.some.injEq, Prod.mk.injEq] at h
        obtain ⟨rfl, rfl⟩ := h
        simp only [Bool.and_eq_true, Bool.not_eq_true'] at hc
        exact ⟨rfl, by simp, hc.1, hc.2⟩
      · cases h
    · cases h
theorem parseS_facts {s : ByteArray} {a d : List UInt8} (h : parseS s = some (a, d)) : dnvL d = true ∧ signL d = false ∧ a.length + d.length ≤ s.data.toList.length := by
  unfold parseS at h
  generalize s.data.toList = l at *
  match l, h with
  | c :: r, h =>
    rw [pBox_cons] at h
    split at h
    · obtain ⟨⟨x, y⟩, hx, hy⟩ := Option.bind_eq_some_iff.1 h
      have h1 := pQuote_len _ _ _ (Nat.le_refl _) x y hx
      obtain ⟨rfl, h2, h3, h4⟩ := pRest_facts hy
      refine ⟨h3, h4, ?_⟩
      simp at h1 h2 ⊢; omega
    · obtain ⟨⟨x, y⟩, hx, hy⟩ := Option.bind_eq_some_iff.1 h
      have h1 := pAtom_len _ _ _ (Nat.le_refl _) x y hx
      unfold pAtoms at hy
      split at hy
      · cases hy
      · split at hy
        · cases hy
        · obtain ⟨rfl, h2, h3, h4⟩ := pRest_facts hy
          refine ⟨h3, h4, ?_⟩
          simp at h1 h2 ⊢; omega
  | [], h => cases h
theorem dnvGo_ascii : ∀ (l : List UInt8) (pd : Bool), dnvGo pd l = true → ∀ b ∈ l, b.toNat < 128
  | [], _, _, b, hb => by simp at hb
  | c :: l, pd, h, b, hb => by
    rw [dnvGo] at h
    split at h
    · cases h
    · rename_i hv
      rcases List.mem_cons.1 hb with rfl | hb
      · simp at hv; omega
      · split at h
        · split at h
          · cases h
          · exact dnvGo_ascii l _ h b hb
        · exact dnvGo_ascii l _ h b hb
theorem dnvL_ascii {l : List UInt8} (h : dnvL l = true) : ∀ b ∈ l, b.toNat < 128 := by
  unfold dnvL at h
  by_cases e : l = []
  · subst e; intro b hb; cases hb
  · rw [if_neg e] at h; exact dnvGo_ascii l true h
/-- The mailbox that a constraint is, its domain in lower case. -/
def parseOf (c : ByteArray) : Option (ByteArray × ByteArray) := if hasSign c then (parseS c).map (fun x => (⟨x.1.toArray⟩, lowS ⟨x.2.toArray⟩)) else none
/-- The constraints that are no mailboxes. -/
def doms (l : List ByteArray) : List ByteArray := l.filter (fun c => !hasSign c)
def isBox (l : List ByteArray) (a d : ByteArray) : Bool := l.any (fun c => decide (parseOf c = some (a, d)))
/-- A mailbox meets one of the constraints. -/
def boxMeets (l : List ByteArray) (a d : ByteArray) : Bool := isBox l a d || meets (doms l) d
/-- The map holds just the mailboxes of the list. -/
def MapSays (D : DataW Unit) (l : List ByteArray) : Prop := ∀ (a d : ByteArray) (kl : Lit), keyOf Tryz.prog 148 (.agg #[.string a, .string d]) = some kl → Maps.has D kl = isBox l a d
theorem MapSays.nil : MapSays (.map []) [] := fun _ _ _ _ => rfl
theorem isBox_snoc (l : List ByteArray) (c a d : ByteArray) : isBox (l ++ [c]) a d = (isBox l a d || decide (parseOf c = some (a, d))) := by
  unfold isBox; rw [List.any_append]; simp
theorem MapSays.skip {D : DataW Unit} {l : List ByteArray} {c : ByteArray} (h : MapSays D l) (hc : parseOf c = none) : MapSays D (l ++ [c]) := fun a d kl hk => by
  rw [isBox_snoc, hc, h a d kl hk]; simp
theorem MapSays.put {D : DataW Unit} {l : List ByteArray} {c a d : ByteArray} {kl : Lit} (h : MapSays D l) (hD : IsMap D) (hc : parseOf c = some (a, d)) (hk : keyOf Tryz.prog 148 (.agg #[.string a, .string d]) = some kl) : MapSays (D.put kl (.agg [])) (l ++ [c]) := fun a' d' kl' hk' => by
  rw [isBox_snoc, hc]
  by_cases e : kl' = kl
  · subst e
    have := law148.inj hk hk'
    simp only [Value.agg.injEq] at this
    have h1 : a = a' ∧ d = d' := by simpa using this
    obtain ⟨rfl, rfl⟩ := h1
    rw [has_put_same hD (law148.key hk)]
    simp
  · have hne : ¬ (some (a, d) = some (a', d')) := fun he => by
      simp only [Option.some.injEq, Prod.mk.injEq] at he
      obtain ⟨rfl, rfl⟩ := he
      rw [hk] at hk'
      exact e (Option.some.inj hk').symm
    rw [has_put_other e, h a' d' kl' hk', decide_eq_false hne]
    simp
theorem MapSays.none_ {D : DataW Unit} {l : List ByteArray} (h : MapSays D l) (hD : IsMap D) (hs : Maps.size D = 0) (a d : ByteArray) (ha : a.size ≤ 1000000) (hd : d.size ≤ 1000000) : isBox l a d = false := by
  obtain ⟨kl, hk⟩ := key148 a d ha hd
  rw [← h a d kl hk]
  obtain ⟨es, rfl⟩ := hD
  have : es = [] := List.eq_nil_of_length_eq_zero hs
  subst this
  rfl
/-- What newEmailConstraints comes to. -/
def IsMail (w : World) (l : List ByteArray) (perm : Bool) (v : Value) : Prop :=
  (l = [] ∧ v = .nilIface) ∨ ∃ E, v = .iface 155 (.pointer (some ⟨E, 0, none⟩)) ∧ l ≠ [] ∧ ∃ (u : Value) (B n : Nat) (D : DataW Unit), Blk w E 157 #[u, .map (some B)] ∧ w.ownsMap Tryz.prog 148 unitElem B n D ∧ MapSays D l ∧ IsDns w (doms l) perm u
theorem IsMail.later {w w' : World} {l : List ByteArray} {perm : Bool} {v : Value} (h : IsMail w l perm v) (hb : Below w.heap.size w w') : IsMail w' l perm v := by
  rcases h with h | ⟨E, h1, h2, u, B, n, D, h3, h4, h5, h6⟩
  · exact .inl h
  · exact .inr ⟨E, h1, h2, u, B, n, D, h3.later hb, h4.kept (row := none) ⟨hb.os, hb.tape, hb.output, hb.size, fun j hj _ => hb.block j hj⟩ (by simp), h5, h6.later hb⟩
theorem IsMail.keep {w w' : World} {l : List ByteArray} {perm : Bool} {v : Value} (h : IsMail w l perm v) (hb : Keep100 w w') : IsMail w' l perm v := by
  rcases h with h | ⟨E, h1, h2, u, B, n, D, h3, h4, h5, h6⟩
  · exact .inl h
  · refine .inr ⟨E, h1, h2, u, B, n, D, hb.blk h3 (by decide), ?_, h5, h6.keep hb⟩
    have hlt := h4.lt
    obtain ⟨es, clock, hh, r⟩ := h4
    refine ⟨es, clock, (hb.block B hlt (fun cs fr e => ?_)).trans hh, r⟩
    rw [hh] at e; cases e
end Go.Proofs.YtblabjfjhlablaaGreatDoor
