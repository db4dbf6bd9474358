/- A name in lower case is a name. -/
import Derived.Test.YtblabjfjhlablaaGreatDoorNl
import Derived.Test.YtblabjfjhlablaaGreatDoorW25
import Derived.Test.YtblabjfjhlablaaGreatDoorW42
namespace Go.Proofs.YtblabjfjhlablaaGreatDoor
open Nc
theorem lowS_data (s : ByteArray) : (lowS s).data = s.data.map low := by
  apply Array.toList_inj.1
  rw [Array.toList_map]
  exact lowS_list s
theorem lowS_extract (s : ByteArray) (a b : Nat) : (lowS s).extract a b = lowS (s.extract a b) := by
  apply ByteArray.ext
  rw [lowS_data, ByteArray.data_extract, ByteArray.data_extract, lowS_data, Array.map_extract]
theorem low_46 : ∀ b : UInt8, (low b).toNat = 46 ↔ b.toNat = 46 := forall_u8 _ (by decide +kernel)
theorem low_45 : ∀ b : UInt8, decide ((low b).toNat ≠ 45) = decide (b.toNat ≠ 45) := forall_u8 _ (by decide +kernel)
theorem okByte_low : ∀ b : UInt8, okByte (low b) = okByte b := forall_u8 _ (by decide +kernel)
theorem cuts_low (s : ByteArray) : ∀ (m fr i : Nat), s.size - i = m → cuts (lowS s) fr i = (cuts s fr i).map lowS := by
  intro m
  induction m with
  | zero =>
    intro fr i h
    rw [cuts, dif_neg (by rw [lowS_size]; omega), cuts, dif_neg (by omega), lowS_size, lowS_extract]; rfl
  | succ m ih =>
    intro fr i h
    have hi : i < s.size := by omega
    have hi' : i < (lowS s).size := by rw [lowS_size]; exact hi
    have e1 := cuts.eq_def (lowS s) fr i
    rw [dif_pos hi', lowS_get] at e1
    have e2 := cuts.eq_def s fr i
    rw [dif_pos hi] at e2
    rw [e1, e2]
    by_cases hd : s[i].toNat = 46
    · rw [if_pos ((low_46 _).2 hd), if_pos hd, ih (i + 1) (i + 1) (by omega), lowS_extract]; rfl
    · rw [if_neg (fun e => hd ((low_46 _).1 e)), if_neg hd, ih fr (i + 1) (by omega)]
theorem labelB_low (x : ByteArray) : labelB (lowS x) = labelB x := by
  unfold labelB
  by_cases h : 1 ≤ x.size ∧ x.size ≤ 63
  · rw [dif_pos (by rw [lowS_size]; exact h), dif_pos h]
    rw [lowS_get, lowS_get, low_45, low_45, lowS_list, List.all_map]
    have e : (okByte ∘ low) = okByte := funext okByte_low
    rw [e]
    simp only [lowS_size]
  · rw [dif_neg (by rw [lowS_size]; exact h), dif_neg h]
theorem alphaB_low (x : ByteArray) : alphaB (lowS x) = alphaB x := by
  unfold alphaB
  by_cases h : 0 < x.size
  · rw [dif_pos (by rw [lowS_size]; exact h), dif_pos h]
    rw [lowS_get, low_low]
  · rw [dif_neg (by rw [lowS_size]; exact h), dif_neg h]
theorem lowS_empty : lowS ByteArray.empty = ByteArray.empty := by decide
theorem nameB_low (s : ByteArray) : nameB (lowS s) = nameB s := by
  unfold nameB
  rw [cuts_low s _ 0 0 rfl, List.all_map, lowS_size]
  have e : (labelB ∘ lowS) = labelB := funext labelB_low
  rw [e]
  congr 1
  have hne := cuts_ne s _ 0 0 rfl
  cases hc : (cuts s 0 0) with
  | nil => exact absurd hc hne
  | cons a r =>
    have : ((a :: r).map lowS).getLastD ByteArray.empty = lowS ((a :: r).getLastD ByteArray.empty) := by
      rw [List.getLastD_eq_getLast?, List.getLastD_eq_getLast?, List.getLast?_map]
      cases (a :: r).getLast? with
      | none => exact lowS_empty.symm
      | some y => rfl
    rw [this, alphaB_low]
theorem lowS_fit (s : ByteArray) (h : nameB s = true) : FitName (lowS s) := nameB_fit _ ((nameB_low s).trans h)
end Go.Proofs.YtblabjfjhlablaaGreatDoor
/- Chains in general: certificates with names and constraints of each kind, what is known of networks left to a structure. -/
namespace Go.Proofs.YtblabjfjhlablaaGreatDoor
open Go.RowKit Nc
/-- A network: an address and a mask. -/
abbrev NetV := List UInt8 × List UInt8
/-- What is to be known of networks: how they lie, what constraints of them come to, how addresses lie, and what is answered. -/
structure IpKit where
  lies : List NetV → World → Value → Prop
  is : List NetV → World → Value → Prop
  row : List (List UInt8) → World → Value → Prop
  ask : List NetV → List UInt8 → Option Bool
  okN : List NetV → Prop
  okA : List UInt8 → Prop
structure IpKit.Fit (X : IpKit) : Prop where
  liesLater : ∀ l w w' v, X.lies l w v → Below w.heap.size w w' → X.lies l w' v
  liesKeeps : ∀ l w w' v, X.lies l w v → Keeps 66 w w' → X.lies l w' v
  rowLater : ∀ l w w' v, X.row l w v → Below w.heap.size w w' → X.row l w' v
  rowKeeps : ∀ l w w' v, X.row l w v → Keeps 66 w w' → X.row l w' v
  isKeep : ∀ l w w' v, X.is l w v → Keep100 w w' → X.is l w' v
  made : ∀ l w v, X.okN l → X.lies l w v → Calls Tryz.prog 88 #[v] w (Makes (X.is l) w)
  askNil : ∀ a, X.ask [] a = none
  check : ∀ (ty : ByteArray) (p e : List NetV) (ad : List (List UInt8)) (v a0 a1 : Value) (w : World), ty.size ≤ 100 → X.okN p → X.okN e → (∀ a ∈ ad, X.okA a) → X.row ad w v → X.is p w a0 → X.is e w a1 →
    ∃ x : Nat → Value, Reads1 w 80 v ad.length x ∧ (∀ k, k < ad.length → (x k).cells = #[x k] ∧ (x k).oneCell' = true) ∧
      ∀ k, (hk : k < ad.length) → ∀ W, Below w.heap.size w W → Calls Tryz.prog 106 #[.agg #[.string ty, a0, a1], x k, x k] W (Says (ruledOut (X.ask p ad[k]) (X.ask e ad[k])) W)
/-- A certificate: constraints and names, 0 of DNS, 1 of mail, 2 of hosts; networks; addresses. -/
structure GC where
  p : Nat → List ByteArray
  e : Nat → List ByteArray
  s : Nat → List ByteArray
  pn : List NetV
  en : List NetV
  ad : List (List UInt8)
def len4 (l : Nat → List ByteArray) (n : Nat) (k : Nat) : Nat := match k with | 0 => (l 0).length | 1 => (l 1).length | 2 => (l 2).length | _ => n
def GC.nc (c : GC) : Bool := someAny (len4 c.p c.pn.length) || someAny (len4 c.e c.en.length)
def GC.hn (c : GC) : Bool := someAny (len4 c.s c.ad.length)
/-- A mailbox that is fit for a check. -/
structure FitBox (s : ByteArray) : Prop where
  size : s.size ≤ 1000
  parsed : ∃ a d, parseS s = some (a, d)
  dom : FitName (boxOf s).2
  loc : (boxOf s).1.size ≤ 1000
structure GC.Ok (X : IpKit) (c : GC) : Prop where
  p : ∀ k, k < 3 → PlainL (c.p k)
  e : ∀ k, k < 3 → PlainL (c.e k)
  dns : ∀ s ∈ c.s 0, FitName s
  box : ∀ s ∈ c.s 1, FitBox s
  host : ∀ s ∈ c.s 2, nameB s = true
  pn : X.okN c.pn
  en : X.okN c.en
  ad : ∀ a ∈ c.ad, X.okA a
  lp : ∀ k, len4 c.p c.pn.length k ≤ 1000000
  le : ∀ k, len4 c.e c.en.length k ≤ 1000000
  ls : ∀ k, len4 c.s c.ad.length k ≤ 1000000
/-- Some name of c is refused by the constraints of by_. -/
def gBad (X : IpKit) (c by_ : GC) : Bool :=
  (c.s 0).any (fun s => ruledOut (askDns (by_.p 0) s) (askDns (by_.e 0) s)) || (c.s 2).any (fun s => ruledOut (askDns (by_.p 2) (lowS s)) (askDns (by_.e 2) (lowS s))) ||
  (c.s 1).any (fun s => ruledOut (askMail (by_.p 1) (boxOf s).1 (boxOf s).2) (askMail (by_.e 1) (boxOf s).1 (boxOf s).2)) || c.ad.any (fun a => ruledOut (X.ask by_.pn a) (X.ask by_.en a))
/-- The certificate as it lies in memory. -/
def GMade (X : IpKit) (c : GC) (C : Nat) (cv : Nat → Value) (w : World) : Prop :=
  CertMade c.p c.e c.s (X.lies c.pn) (X.lies c.en) (X.row c.ad w) c.nc c.hn w C cv
def gData (X : IpKit) (cs : Nat → GC) (n : Nat) (C : Nat → Nat) (cv : Nat → Nat → Value) : ChainData where
  n := n
  nc := fun i => (cs i).nc
  hn := fun i => (cs i).hn
  C := C
  cv := cv
  φ := fun i q w v => match q with | 0 => X.is (cs i).pn w v | 1 => X.is (cs i).en w v | 2 => IsDns w ((cs i).p 0) true v | 3 => IsDns w ((cs i).e 0) false v | 4 => IsDns w ((cs i).p 2) true v | 5 => IsDns w ((cs i).e 2) false v | 6 => IsMail w ((cs i).p 1) true v | 7 => IsMail w ((cs i).e 1) false v | _ => True
  ψ := fun i q w u => match q with | 0 => UriRow w ((cs i).s 2) u | 1 => MailRow w ((cs i).s 1) u | _ => True
  bad := fun i j => gBad X (cs i) (cs j)
theorem GMade.later {X : IpKit} (hX : X.Fit) {c : GC} {C : Nat} {cv : Nat → Value} {w w' : World} (h : GMade X c C cv w) (hb : Below w.heap.size w w') : GMade X c C cv w' := by
  obtain ⟨h1, h2, h3, h4, h5, h6, h7, h8, h9, h10, h11, h12, h13⟩ := h
  exact ⟨h1.later hb, h2.later hb, h3.later hb, hX.liesLater _ _ _ _ h4 hb, hX.liesLater _ _ _ _ h5 hb, h6.later hb, h7.later hb, h8.later hb, h9.later hb, h10.later hb, h11.later hb, h12.later hb, hX.rowLater _ _ _ _ h13 hb⟩
theorem GMade.keeps {X : IpKit} (hX : X.Fit) {c : GC} {C : Nat} {cv : Nat → Value} {w w' : World} (h : GMade X c C cv w) (hb : Keeps 66 w w') : GMade X c C cv w' := by
  obtain ⟨h1, h2, h3, h4, h5, h6, h7, h8, h9, h10, h11, h12, h13⟩ := h
  exact ⟨hb.blk h1 (by decide), hb.srow h2 (by decide), hb.srow h3 (by decide), hX.liesKeeps _ _ _ _ h4 hb, hX.liesKeeps _ _ _ _ h5 hb, hb.srow h6 (by decide), hb.srow h7 (by decide), hb.srow h8 (by decide), hb.srow h9 (by decide), hb.srow h10 (by decide), hb.srow h11 (by decide), hb.srow h12 (by decide), hX.rowKeeps _ _ _ _ h13 hb⟩
theorem Reads2.keep {w w' : World} {t : TypeId} {v : Value} {n : Nat} {x y : Nat → Value} (h : Reads2 w t v n x y) (hb : Keep100 w w') (ht : t ≠ 100) : Reads2 w' t v n x y := by
  obtain ⟨A, c, h1, h2⟩ := h
  exact ⟨A, c, h1, fun hn => by obtain ⟨g, cur, e, b, r⟩ := h2 hn; exact ⟨g, cur, e, hb.blk b ht, r⟩⟩
/-- A row of texts, read one by one. -/
theorem SRow.each {w : World} {v : Value} {l : List ByteArray} (h : SRow w 9 v (l.map .string)) : ∃ A c, v = .slice A l.length c ∧ ∀ k, (hk : k < l.length) → ∃ ad, A = some ad ∧ w.cell? (ad.add k) = some (.string l[k]) := by
  rcases h with ⟨h, e⟩ | ⟨g, cap, cur, h, hb, _, _, _, hc⟩
  · have : l = [] := by simpa using e
    subst this
    exact ⟨none, 0, h, fun k hk => absurd hk (by simp)⟩
  · refine ⟨_, cap, by simpa using h, fun k hk => ⟨_, rfl, ?_⟩⟩
    have := hb.at_ k (hc k (.string l[k]) (by simp [hk]))
    cases k with
    | zero => exact this
    | succ k => simpa [Addr.add] using this
theorem getD_eq (l : List ByteArray) (k : Nat) (hk : k < l.length) : l.getD k ByteArray.empty = l[k] := by simp [hk]
theorem gCheck_calls (X : IpKit) (hX : X.Fit) (c by_ : GC) (T : Nat → ByteArray) (hT : ∀ k, (T k).size ≤ 100) (a : Nat → Value) (j b : Nat) (nx v1 v2 v3 v4 : Value) (W : World) (hc : c.Ok X) (hy : X.okN by_.pn ∧ X.okN by_.en)
    (f0 : X.is by_.pn W (a 0)) (f1 : X.is by_.en W (a 1)) (f2 : IsDns W (by_.p 0) true (a 2)) (f3 : IsDns W (by_.e 0) false (a 3)) (f4 : IsDns W (by_.p 2) true (a 4)) (f5 : IsDns W (by_.e 2) false (a 5)) (f6 : IsMail W (by_.p 1) true (a 6)) (f7 : IsMail W (by_.e 1) false (a 7))
    (hb : Blk W b 100 (ccT T a j nx)) (h1 : SRow W 9 v1 ((c.s 0).map .string)) (h2 : UriRow W (c.s 2) v2) (h3 : MailRow W (c.s 1) v3) (h4 : X.row c.ad W v4) :
    Calls Tryz.prog 74 #[.pointer (some ⟨b, 0, none⟩), v1, v2, v3, v4] W (Says (gBad X c by_) W) := by
  obtain ⟨x, hx1, hx2, hx3⟩ := hX.check (T 0) by_.pn by_.en c.ad v4 (a 0) (a 1) W (hT 0) hy.1 hy.2 hc.ad h4 f0 f1
  have hr := h1.reads (fun k => .string ((c.s 0).getD k ByteArray.empty)) (fun k u hk => by
    simp only [List.getElem?_map, Option.map_eq_some_iff] at hk
    obtain ⟨s, hs, rfl⟩ := hk
    simp [List.getD_eq_getElem?_getD, hs])
  rw [List.length_map] at hr
  let d : NamesData := {nIp := c.ad.length, nDns := (c.s 0).length, nUri := (c.s 2).length, nMail := (c.s 1).length, ipv := x, dn := fun k => (c.s 0).getD k ByteArray.empty, uo := fun k => (c.s 2).getD k ByteArray.empty, ud := fun k => lowS ((c.s 2).getD k ByteArray.empty), ml := fun k => (boxOf ((c.s 1).getD k ByteArray.empty)).1, md := fun k => (boxOf ((c.s 1).getD k ByteArray.empty)).2, ipb := fun k => ruledOut (X.ask by_.pn (c.ad.getD k [])) (X.ask by_.en (c.ad.getD k [])), dnb := fun k => ruledOut (askDns (by_.p 0) ((c.s 0).getD k ByteArray.empty)) (askDns (by_.e 0) ((c.s 0).getD k ByteArray.empty)), urb := fun k => ruledOut (askDns (by_.p 2) (lowS ((c.s 2).getD k ByteArray.empty))) (askDns (by_.e 2) (lowS ((c.s 2).getD k ByteArray.empty))), mab := fun k => ruledOut (askMail (by_.p 1) (boxOf ((c.s 1).getD k ByteArray.empty)).1 (boxOf ((c.s 1).getD k ByteArray.empty)).2) (askMail (by_.e 1) (boxOf ((c.s 1).getD k ByteArray.empty)).1 (boxOf ((c.s 1).getD k ByteArray.empty)).2) }
  have hok : NamesOk d T a W := {
    sizes := ⟨hc.ls 3, hc.ls 0, hc.ls 2, hc.ls 1⟩
    ip1 := hx2
    ip := fun k hk W' hW => by
      have hk : k < c.ad.length := hk
      have := hx3 k hk W' hW
      show Calls Tryz.prog 106 _ W' (Says (ruledOut (X.ask by_.pn (c.ad.getD k [])) (X.ask by_.en (c.ad.getD k []))) W')
      simpa [List.getD_eq_getElem?_getD, List.getElem?_eq_getElem hk] using this
    dns0 := fun k hk => by
      have hk : k < (c.s 0).length := hk
      have := hc.dns _ (List.getElem_mem hk)
      show ((c.s 0).getD k ByteArray.empty).size ≤ 1000000 ∧ dnv ((c.s 0).getD k ByteArray.empty) = true
      rw [getD_eq _ _ hk]
      exact ⟨by have := this.size; omega, this.valid⟩
    dns := fun k hk W' hW => by
      have hk : k < (c.s 0).length := hk
      have hf := hc.dns _ (List.getElem_mem hk)
      show Calls Tryz.prog 109 #[.agg #[.string (T 1), a 2, a 3], .string ((c.s 0).getD k ByteArray.empty), .string ((c.s 0).getD k ByteArray.empty)] W' (Says (ruledOut (askDns (by_.p 0) ((c.s 0).getD k ByteArray.empty)) (askDns (by_.e 0) ((c.s 0).getD k ByteArray.empty))) W')
      rw [getD_eq _ _ hk]
      exact check109_calls _ _ _ _ _ _ W' ((f2.later hW).asked _ hf) ((f3.later hW).asked _ hf) (hT 1)
    uri0 := fun k hk => by
      have hk : k < (c.s 2).length := hk
      have := lowS_fit _ (hc.host _ (List.getElem_mem hk))
      show (lowS ((c.s 2).getD k ByteArray.empty)).size ≤ 1000000 ∧ dnv (lowS ((c.s 2).getD k ByteArray.empty)) = true
      rw [getD_eq _ _ hk]
      exact ⟨by have := this.size; omega, this.valid⟩
    uri := fun k hk W' hW => by
      have hk : k < (c.s 2).length := hk
      have hf := lowS_fit _ (hc.host _ (List.getElem_mem hk))
      show Calls Tryz.prog 110 #[.agg #[.string (T 2), a 4, a 5], .string (lowS ((c.s 2).getD k ByteArray.empty)), .agg #[.string ((c.s 2).getD k ByteArray.empty), .string (lowS ((c.s 2).getD k ByteArray.empty))]] W' (Says (ruledOut (askDns (by_.p 2) (lowS ((c.s 2).getD k ByteArray.empty))) (askDns (by_.e 2) (lowS ((c.s 2).getD k ByteArray.empty)))) W')
      rw [getD_eq _ _ hk]
      exact check110_calls _ _ _ _ _ _ _ _ W' ((f4.later hW).asked _ hf) ((f5.later hW).asked _ hf) (hT 2)
    mail0 := fun k hk => by
      have hk : k < (c.s 1).length := hk
      have := (hc.box _ (List.getElem_mem hk)).dom
      show ((boxOf ((c.s 1).getD k ByteArray.empty)).2).size ≤ 1000000 ∧ dnv (boxOf ((c.s 1).getD k ByteArray.empty)).2 = true
      rw [getD_eq _ _ hk]
      exact ⟨by have := this.size; omega, this.valid⟩
    mail := fun k hk W' hW => by
      have hk : k < (c.s 1).length := hk
      have hf := hc.box _ (List.getElem_mem hk)
      have hl := hf.loc
      show Calls Tryz.prog 111 #[.agg #[.string (T 3), a 6, a 7], .agg #[.string (boxOf ((c.s 1).getD k ByteArray.empty)).1, .string (boxOf ((c.s 1).getD k ByteArray.empty)).2], .agg #[.string (boxOf ((c.s 1).getD k ByteArray.empty)).1, .string (boxOf ((c.s 1).getD k ByteArray.empty)).2]] W' (Says (ruledOut (askMail (by_.p 1) (boxOf ((c.s 1).getD k ByteArray.empty)).1 (boxOf ((c.s 1).getD k ByteArray.empty)).2) (askMail (by_.e 1) (boxOf ((c.s 1).getD k ByteArray.empty)).1 (boxOf ((c.s 1).getD k ByteArray.empty)).2)) W')
      rw [getD_eq _ _ hk]
      exact check111_calls _ _ _ _ _ _ _ W' ((f6.later hW).asked _ _ (by omega) hf.dom) ((f7.later hW).asked _ _ (by omega) hf.dom) (hT 3) }
  refine check_calls d T a j b nx v1 v2 v3 v4 W hok hb hx1 hr h2 h3 (gBad X c by_) (fun k hk hb => ?_) (fun k hk hb => ?_) (fun k hk hb => ?_) (fun k hk hb => ?_) (fun hi hd hu hm => ?_)
  · have hk : k < c.ad.length := hk
    have hb : ruledOut (X.ask by_.pn (c.ad.getD k [])) (X.ask by_.en (c.ad.getD k [])) = true := hb
    have e : c.ad.getD k [] = c.ad[k] := by simp [hk]
    rw [e] at hb
    unfold gBad
    rw [List.any_eq_true.2 ⟨c.ad[k], List.getElem_mem hk, hb⟩, Bool.or_true]
  · have hk : k < (c.s 0).length := hk
    have hb : ruledOut (askDns (by_.p 0) ((c.s 0).getD k ByteArray.empty)) (askDns (by_.e 0) ((c.s 0).getD k ByteArray.empty)) = true := hb
    rw [getD_eq _ _ hk] at hb
    unfold gBad
    rw [List.any_eq_true.2 ⟨(c.s 0)[k], List.getElem_mem hk, hb⟩]; simp
  · have hk : k < (c.s 2).length := hk
    have hb : ruledOut (askDns (by_.p 2) (lowS ((c.s 2).getD k ByteArray.empty))) (askDns (by_.e 2) (lowS ((c.s 2).getD k ByteArray.empty))) = true := hb
    rw [getD_eq _ _ hk] at hb
    have : (c.s 2).any (fun s => ruledOut (askDns (by_.p 2) (lowS s)) (askDns (by_.e 2) (lowS s))) = true := List.any_eq_true.2 ⟨(c.s 2)[k], List.getElem_mem hk, hb⟩
    unfold gBad
    rw [this]; simp
  · have hk : k < (c.s 1).length := hk
    have hb : ruledOut (askMail (by_.p 1) (boxOf ((c.s 1).getD k ByteArray.empty)).1 (boxOf ((c.s 1).getD k ByteArray.empty)).2) (askMail (by_.e 1) (boxOf ((c.s 1).getD k ByteArray.empty)).1 (boxOf ((c.s 1).getD k ByteArray.empty)).2) = true := hb
    rw [getD_eq _ _ hk] at hb
    have : (c.s 1).any (fun s => ruledOut (askMail (by_.p 1) (boxOf s).1 (boxOf s).2) (askMail (by_.e 1) (boxOf s).1 (boxOf s).2)) = true := List.any_eq_true.2 ⟨(c.s 1)[k], List.getElem_mem hk, hb⟩
    unfold gBad
    rw [this]; simp
  · have ei : c.ad.any (fun a => ruledOut (X.ask by_.pn a) (X.ask by_.en a)) = false := List.any_eq_false.2 (fun s hs => by
      obtain ⟨k, hk, rfl⟩ := List.getElem_of_mem hs
      have : ruledOut (X.ask by_.pn (c.ad.getD k [])) (X.ask by_.en (c.ad.getD k [])) = false := hi k hk
      have e : c.ad.getD k [] = c.ad[k] := by simp [hk]
      rw [e] at this
      simp [this])
    have ed : (c.s 0).any (fun s => ruledOut (askDns (by_.p 0) s) (askDns (by_.e 0) s)) = false := List.any_eq_false.2 (fun s hs => by
      obtain ⟨k, hk, rfl⟩ := List.getElem_of_mem hs
      have : ruledOut (askDns (by_.p 0) ((c.s 0).getD k ByteArray.empty)) (askDns (by_.e 0) ((c.s 0).getD k ByteArray.empty)) = false := hd k hk
      rw [getD_eq _ _ hk] at this
      simp [this])
    have eu : (c.s 2).any (fun s => ruledOut (askDns (by_.p 2) (lowS s)) (askDns (by_.e 2) (lowS s))) = false := List.any_eq_false.2 (fun s hs => by
      obtain ⟨k, hk, rfl⟩ := List.getElem_of_mem hs
      have : ruledOut (askDns (by_.p 2) (lowS ((c.s 2).getD k ByteArray.empty))) (askDns (by_.e 2) (lowS ((c.s 2).getD k ByteArray.empty))) = false := hu k hk
      rw [getD_eq _ _ hk] at this
      simp [this])
    have em : (c.s 1).any (fun s => ruledOut (askMail (by_.p 1) (boxOf s).1 (boxOf s).2) (askMail (by_.e 1) (boxOf s).1 (boxOf s).2)) = false := List.any_eq_false.2 (fun s hs => by
      obtain ⟨k, hk, rfl⟩ := List.getElem_of_mem hs
      have : ruledOut (askMail (by_.p 1) (boxOf ((c.s 1).getD k ByteArray.empty)).1 (boxOf ((c.s 1).getD k ByteArray.empty)).2) (askMail (by_.e 1) (boxOf ((c.s 1).getD k ByteArray.empty)).1 (boxOf ((c.s 1).getD k ByteArray.empty)).2) = false := hm k hk
      rw [getD_eq _ _ hk] at this
      simp [this])
    unfold gBad
    rw [ed, eu, em, ei]; rfl
theorem stdT_le : ∀ k, (stdT k).size ≤ 100 := fun k => by
  match k with
  | 0 => decide
  | 1 => decide
  | 2 => decide
  | k + 3 => exact (by decide : txMail.size ≤ 100)
theorem gNc (X : IpKit) (hX : X.Fit) (c by_ : GC) (h : gBad X c by_ = true) : by_.nc = true ∧ c.hn = true := by
  have r0 : ruledOut none none = false := rfl
  unfold GC.nc GC.hn someAny
  simp only [len4]
  unfold gBad at h
  simp only [Bool.or_eq_true] at h
  rcases h with ((h | h) | h) | h
  · obtain ⟨s, hs, hr⟩ := List.any_eq_true.1 h
    have h1 := List.length_pos_of_mem hs
    refine ⟨?_, decide_eq_true (by omega)⟩
    by_cases hp : by_.p 0 = []
    · by_cases he : by_.e 0 = []
      · unfold askDns at hr; rw [if_pos hp, if_pos he, r0] at hr; cases hr
      · have := List.length_pos_iff.2 he
        rw [decide_eq_true (p := 0 < (by_.e 0).length + (by_.e 1).length + (by_.e 2).length + by_.en.length) (by omega), Bool.or_true]
    · have := List.length_pos_iff.2 hp
      rw [decide_eq_true (p := 0 < (by_.p 0).length + (by_.p 1).length + (by_.p 2).length + by_.pn.length) (by omega), Bool.true_or]
  · obtain ⟨s, hs, hr⟩ := List.any_eq_true.1 h
    have h1 := List.length_pos_of_mem hs
    refine ⟨?_, decide_eq_true (by omega)⟩
    by_cases hp : by_.p 2 = []
    · by_cases he : by_.e 2 = []
      · unfold askDns at hr; rw [if_pos hp, if_pos he, r0] at hr; cases hr
      · have := List.length_pos_iff.2 he
        rw [decide_eq_true (p := 0 < (by_.e 0).length + (by_.e 1).length + (by_.e 2).length + by_.en.length) (by omega), Bool.or_true]
    · have := List.length_pos_iff.2 hp
      rw [decide_eq_true (p := 0 < (by_.p 0).length + (by_.p 1).length + (by_.p 2).length + by_.pn.length) (by omega), Bool.true_or]
  · obtain ⟨s, hs, hr⟩ := List.any_eq_true.1 h
    have h1 := List.length_pos_of_mem hs
    refine ⟨?_, decide_eq_true (by omega)⟩
    by_cases hp : by_.p 1 = []
    · by_cases he : by_.e 1 = []
      · unfold askMail at hr; rw [if_pos hp, if_pos he, r0] at hr; cases hr
      · have := List.length_pos_iff.2 he
        rw [decide_eq_true (p := 0 < (by_.e 0).length + (by_.e 1).length + (by_.e 2).length + by_.en.length) (by omega), Bool.or_true]
    · have := List.length_pos_iff.2 hp
      rw [decide_eq_true (p := 0 < (by_.p 0).length + (by_.p 1).length + (by_.p 2).length + by_.pn.length) (by omega), Bool.true_or]
  · obtain ⟨s, hs, hr⟩ := List.any_eq_true.1 h
    have h1 := List.length_pos_of_mem hs
    refine ⟨?_, decide_eq_true (by omega)⟩
    by_cases hp : by_.pn = []
    · by_cases he : by_.en = []
      · rw [hp, he, hX.askNil, r0] at hr; cases hr
      · have := List.length_pos_iff.2 he
        rw [decide_eq_true (p := 0 < (by_.e 0).length + (by_.e 1).length + (by_.e 2).length + by_.en.length) (by omega), Bool.or_true]
    · have := List.length_pos_iff.2 hp
      rw [decide_eq_true (p := 0 < (by_.p 0).length + (by_.p 1).length + (by_.p 2).length + by_.pn.length) (by omega), Bool.true_or]
theorem gChain_ok (X : IpKit) (hX : X.Fit) (cs : Nat → GC) (n : Nat) (C : Nat → Nat) (cv : Nat → Nat → Value) (w : World) (hL : Laid w) (hok : ∀ i, i < n → (cs i).Ok X) (hm : ∀ i, i < n → GMade X (cs i) (C i) (cv i) w) : ChainOk (gData X cs n C cv) w where
  cert := fun i hi => (hm i hi).1
  φmono := fun i q W W' v h hk => by
    match q with
    | 0 => exact hX.isKeep _ _ _ _ h hk
    | 1 => exact hX.isKeep _ _ _ _ h hk
    | 2 => exact IsDns.keep h hk
    | 3 => exact IsDns.keep h hk
    | 4 => exact IsDns.keep h hk
    | 5 => exact IsDns.keep h hk
    | 6 => exact IsMail.keep h hk
    | 7 => exact IsMail.keep h hk
    | q + 8 => trivial
  ψmono := fun i q W W' v h hk => by
    match q with
    | 0 => exact Reads2.keep h hk (by decide)
    | 1 => exact Reads2.keep h hk (by decide)
    | q + 2 => trivial
  ip0 := fun i hi hnc W hW => hX.made _ _ _ (hok i hi).pn (hX.liesLater _ _ _ _ (hm i hi).2.2.2.1 hW)
  ip1 := fun i hi hnc W hW => hX.made _ _ _ (hok i hi).en (hX.liesLater _ _ _ _ (hm i hi).2.2.2.2.1 hW)
  dns0 := fun i hi hnc W hW => newDns_makes ((cs i).p 0) true _ W ((hm i hi).2.1.later hW) ((hok i hi).lp 0) ((hok i hi).p 0 (by omega)) (hL.keep hW)
  dns1 := fun i hi hnc W hW => newDns_makes ((cs i).e 0) false _ W ((hm i hi).2.2.1.later hW) ((hok i hi).le 0) ((hok i hi).e 0 (by omega)) (hL.keep hW)
  uri0 := fun i hi hnc W hW => newDns_makes ((cs i).p 2) true _ W ((hm i hi).2.2.2.2.2.2.2.1.later hW) ((hok i hi).lp 2) ((hok i hi).p 2 (by omega)) (hL.keep hW)
  uri1 := fun i hi hnc W hW => newDns_makes ((cs i).e 2) false _ W ((hm i hi).2.2.2.2.2.2.2.2.1.later hW) ((hok i hi).le 2) ((hok i hi).e 2 (by omega)) (hL.keep hW)
  mail0 := fun i hi hnc W hW => by
    obtain ⟨A, c, e, h⟩ := ((hm i hi).2.2.2.2.2.1.later hW).each
    show Calls Tryz.prog 77 #[cv i 6, .bool true] W (Makes (fun W u => IsMail W ((cs i).p 1) true u) W)
    rw [e]
    exact newMail_calls ((cs i).p 1) true A c W h ((hok i hi).lp 1) ((hok i hi).p 1 (by omega)) (hL.keep hW)
  mail1 := fun i hi hnc W hW => by
    obtain ⟨A, c, e, h⟩ := ((hm i hi).2.2.2.2.2.2.1.later hW).each
    show Calls Tryz.prog 77 #[cv i 7, .bool false] W (Makes (fun W u => IsMail W ((cs i).e 1) false u) W)
    rw [e]
    exact newMail_calls ((cs i).e 1) false A c W h ((hok i hi).le 1) ((hok i hi).e 1 (by omega)) (hL.keep hW)
  uris := fun i hi hnc W hW => by
    obtain ⟨A, c, e, h⟩ := ((hm i hi).2.2.2.2.2.2.2.2.2.2.2.1.later hW).each
    show Calls Tryz.prog 87 #[cv i 12] W (Parses (fun W u => UriRow W ((cs i).s 2) u) W)
    rw [e]
    exact parseURIs_calls ((cs i).s 2) A c W h ((hok i hi).ls 2) (hok i hi).host
  mails := fun i hi hnc W hW => by
    obtain ⟨A, c, e, h⟩ := ((hm i hi).2.2.2.2.2.2.2.2.2.2.1.later hW).each
    show Calls Tryz.prog 76 #[cv i 11] W (Parses (fun W u => MailRow W ((cs i).s 1) u) W)
    rw [e]
    exact parseMails_calls ((cs i).s 1) A c W h ((hok i hi).ls 1) (fun s hs => ⟨((hok i hi).box s hs).size, ((hok i hi).box s hs).parsed⟩)
  check := fun i j hij hj hhn hnc W a u m nx b hW hb hφ hu hm' => by
    have hi : i < n := Nat.lt_trans hij hj
    have hj : j < n := hj
    exact gCheck_calls X hX (cs i) (cs j) stdT stdT_le a j b nx _ u m _ W (hok i hi) ⟨(hok j hj).pn, (hok j hj).en⟩ (hφ 0 (by omega)) (hφ 1 (by omega)) (hφ 2 (by omega)) (hφ 3 (by omega)) (hφ 4 (by omega)) (hφ 5 (by omega)) (hφ 6 (by omega)) (hφ 7 (by omega)) hb
      ((hm i hi).2.2.2.2.2.2.2.2.2.1.later hW) hu hm' (hX.rowLater _ _ _ _ (hm i hi).2.2.2.2.2.2.2.2.2.2.2.2 hW)
/-- A chain is refused: some name of a certificate is, by the constraints of one behind it. -/
def gRefused (X : IpKit) (cs : Nat → GC) (n : Nat) : Prop := ∃ i j, i < j ∧ j < n ∧ gBad X (cs i) (cs j) = true
theorem gChainCheck_calls (X : IpKit) (hX : X.Fit) (cs : Nat → GC) (n : Nat) (C : Nat → Nat) (cv : Nat → Nat → Value) (g cap : Nat) (cur : Array Value) (w : World) (hL : Laid w) (hok : ∀ i, i < n → (cs i).Ok X) (hm : ∀ i, i < n → GMade X (cs i) (C i) (cv i) w)
    (hg : Blk w g 66 cur) (hc : ∀ i, i < n → cur[i]? = some (.pointer (some ⟨C i, 0, none⟩))) (hn : n ≤ 1000000) (R : Bool) (hR : R = true ↔ gRefused X cs n) :
    Calls Tryz.prog 86 #[.slice (some ⟨g, 0, none⟩) n cap] w (Says R w) := by
  refine chainCheck_calls (gData X cs n C cv) g cap cur w (gChain_ok X hX cs n C cv w hL hok hm) hg hc hn R (fun i j hij hj _ _ hb => hR.2 ⟨i, j, hij, hj, hb⟩) (fun h => ?_)
  cases R with
  | false => rfl
  | true =>
    obtain ⟨i, j, hij, hj, hb⟩ := hR.1 rfl
    obtain ⟨h2, h1⟩ := gNc X hX _ _ hb
    have := h i j hij hj h1 h2
    simp only [gData] at this
    rw [hb] at this
    cases this
/-- The values of a certificate's twelve slices, as the caller's memory holds them. -/
structure GSlots where
  pA : Nat → Option Addr
  eA : Nat → Option Addr
  fA : Nat → Option Addr
  pc : Nat → Nat
  ec : Nat → Nat
  fc : Nat → Nat
def GSlots.p (z : GSlots) (c : GC) (j : Nat) : Value := .slice (z.pA j) (len4 c.p c.pn.length j) (z.pc j)
def GSlots.e (z : GSlots) (c : GC) (j : Nat) : Value := .slice (z.eA j) (len4 c.e c.en.length j) (z.ec j)
def GSlots.f (z : GSlots) (c : GC) (j : Nat) : Value := .slice (z.fA j) (len4 c.s c.ad.length j) (z.fc j)
/-- certificate makes what is asked of it, at this world. -/
def GCertCalls (X : IpKit) (c : GC) (z : GSlots) (W : World) : Prop :=
  Calls Tryz.prog 54 #[cval z.pA z.eA z.fA (len4 c.p c.pn.length) (len4 c.e c.en.length) (len4 c.s c.ad.length) z.pc z.ec z.fc] W fun e w' => ∃ C, e = .returned (.pointer (some ⟨C, 0, none⟩)) ∧ Below W.heap.size W w' ∧ ∃ cv, GMade X c C cv w'
theorem gChain_calls (X : IpKit) (hX : X.Fit) (cs : Nat → GC) (zs : Nat → GSlots) (n c : Nat) (A : Option Addr) (w : World) (hL : Laid w) (hn : n ≤ 100000) (hn0 : 0 < n) (hok : ∀ i, i < n → (cs i).Ok X)
    (hA : CertsAt w A n (fun k j => (zs k).p (cs k) j) (fun k j => (zs k).e (cs k) j) (fun k j => (zs k).f (cs k) j)) (hC : ∀ i, i < n → ∀ W, Below w.heap.size w W → GCertCalls X (cs i) (zs i) W)
    (R : Bool) (hR : R = true ↔ gRefused X cs n) :
    Calls Tryz.prog 21 #[.slice A n c] w fun e w' => e = .returned (.int .i64 (codeB R)) ∧ Below w.heap.size w w' := by
  refine chain_calls A n c (fun k => (zs k).pA) (fun k => (zs k).eA) (fun k => (zs k).fA) (fun k => len4 (cs k).p (cs k).pn.length) (fun k => len4 (cs k).e (cs k).en.length) (fun k => len4 (cs k).s (cs k).ad.length) (fun k => (zs k).pc) (fun k => (zs k).ec) (fun k => (zs k).fc)
    (fun i C W => ∃ cv, GMade X (cs i) C cv W) w hA hn R (fun i C W W' h hk => ?_) (fun i hi W hW => hC i hi W hW) (fun W v C hW hG hv => ?_)
  · obtain ⟨cv, h⟩ := h
    exact ⟨cv, h.keeps hX hk⟩
  · have hcv : ∃ cv : Nat → Nat → Value, ∀ i, i < n → GMade X (cs i) (C i) (cv i) W := by
      refine ⟨fun i => if h : i < n then Classical.choose (hG i h) else fun _ => .nilIface, fun i hi => ?_⟩
      have := Classical.choose_spec (hG i hi)
      simpa [hi] using this
    obtain ⟨cv, hm⟩ := hcv
    have hne : ((List.range n).map fun i => Value.pointer (some ⟨C i, 0, none⟩)) ≠ [] := by
      intro h
      have := congrArg List.length h
      simp at this
      omega
    obtain ⟨g, cap, cur, rfl, hg, _, _, _, hc⟩ := hv.more hne
    rw [List.length_map, List.length_range]
    exact gChainCheck_calls X hX cs n C cv g cap cur W (hL.keep hW) hok hm hg (fun i hi => hc i _ (by simp [hi])) (by omega) R hR
end Go.Proofs.YtblabjfjhlablaaGreatDoor
