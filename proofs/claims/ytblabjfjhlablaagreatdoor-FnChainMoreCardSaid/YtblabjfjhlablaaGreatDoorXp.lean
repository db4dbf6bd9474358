/- What certificate is asked of addresses. -/
import Derived.Deep.RegionLaw
import Derived.Test.YtblabjfjhlablaaGreatDoorNb
import Derived.Test.YtblabjfjhlablaaGreatDoorW15
import Derived.Test.YtblabjfjhlablaaGreatDoorW44
namespace Go.Proofs.YtblabjfjhlablaaGreatDoor
open Go.RowKit Go.Sort Nc
/-- Addresses as the caller's memory holds them, read. -/
def AddrsRd (w : World) (A : Option Addr) (l : List (List UInt8)) : Prop :=
  ∃ (a : Nat → Option Addr) (ac : Nat → Nat), (∀ k, k < l.length → ∃ x, A = some x ∧ w.cell? (x.add k) = some (.slice (a k) (l.getD k []).length (ac k))) ∧ ∀ k (h : k < l.length), Byt w (a k) l[k]
theorem AddrsRd.later {w w' : World} {A : Option Addr} {l : List (List UInt8)} (h : AddrsRd w A l) (hb : Below w.heap.size w w') : AddrsRd w' A l := by
  obtain ⟨a, ac, h1, h2⟩ := h
  refine ⟨a, ac, fun k hk => ?_, fun k hk => (h2 k hk).later hb⟩
  obtain ⟨x, e, hx⟩ := h1 k hk
  exact ⟨x, e, cell_keep hb hx⟩
/-- Addresses as they lie for the package. -/
def AddrRow (l : List (List UInt8)) (w : World) (v : Value) : Prop := ∃ vs : List Value, vs.length = l.length ∧ SRow w 80 v vs ∧ ∀ j (h1 : j < vs.length) (h2 : j < l.length), BSl w vs[j] l[j]
theorem ip_info : (Tryz.prog.info? 80).map (fun i => (i.zero, i.size, i.bytes)) = some (some (.slice none 0 0), 1, 24) := by kernel_rfl
/-- All stands as it was but blocks of two types. -/
def Keeps2 (w w' : World) : Prop := w.heap.size ≤ w'.heap.size ∧ ∀ g t cs, t ≠ 116 → t ≠ 80 → Blk w g t cs → Blk w' g t cs
theorem own_far {w : World} {base n size : Nat} {e : TypeId} {v : Value} {xs : List Value} (h : w.ownsRow base e size v n xs) {C : Nat} {t : TypeId} {cs : Array Value} (hC : Blk w C t cs) (ht : t ≠ e) (i : Nat) (u : Value) : (w.setCell ⟨C, i, none⟩ u).ownsRow base e size v n xs := by
  obtain ⟨h1, h2⟩ := h
  refine ⟨h1, ?_⟩
  rcases h2 with h2 | ⟨g, cap, cur, h3, h4, hh, hr⟩
  · exact .inl h2
  · have hg : Blk w g e cur := hh
    exact .inr ⟨g, cap, cur, h3, h4, hg.far (fun q => hg.ne_ hC (fun z => ht z.symm) q) u, hr⟩
theorem Keeps2.refl (w : World) : Keeps2 w w := ⟨Nat.le_refl _, fun _ _ _ _ _ h => h⟩
theorem Keeps2.trans {a b c : World} (h : Keeps2 a b) (k : Keeps2 b c) : Keeps2 a c := ⟨Nat.le_trans h.1 k.1, fun g t cs h1 h2 hb => k.2 g t cs h1 h2 (h.2 g t cs h1 h2 hb)⟩
theorem Keeps2.below {a b : World} (h : Below a.heap.size a b) : Keeps2 a b := ⟨h.size, fun _ _ _ _ _ hb => hb.later h⟩
theorem Keeps2.k80 {a b : World} (h : Keeps 80 a b) : Keeps2 a b := ⟨h.size, fun _ _ _ _ h2 hb => h.blk hb h2⟩
theorem Keeps2.k116 {a b : World} (h : Keeps 116 a b) : Keeps2 a b := ⟨h.size, fun _ _ _ h1 _ hb => h.blk hb h1⟩
theorem BSl.keeps2 {w w' : World} {v : Value} {l : List UInt8} (h : BSl w v l) (hk : Keeps2 w w') : BSl w' v l := by
  obtain ⟨g, c, cur, h1, h2, h3⟩ := h
  exact ⟨g, c, cur, h1, hk.2 g 5 cur (by decide) (by decide) h2, h3⟩
/-- One more address has come. -/
theorem addr_more {w w12 wr w1 w8 : World} {C k gb kb : Nat} {u nv : Value} {F : Array Value} {vs : List Value} {ad : List (List UInt8)} (hlt : k < ad.length) (hS : w.heap.size ≤ C) (hbr : Below w.heap.size w wr) (bb : Below wr.heap.size wr w1) (hvk : vs.length = k)
    (hr1 : (w1.alloc (.cells #[.slice (some ⟨gb, 0, none⟩) ad[k].length kb] 80)).ownsRow w.heap.size 80 1 u k vs) (g8 : (w1.alloc (.cells #[.slice (some ⟨gb, 0, none⟩) ad[k].length kb] 80)).grownBy w8 u.ownBlock)
    (tb : BSl w1 (.slice (some ⟨gb, 0, none⟩) ad[k].length kb) ad[k]) (o8 : w8.ownsRow w.heap.size 80 1 nv (k + 1) (vs ++ [.slice (some ⟨gb, 0, none⟩) ad[k].length kb])) (hF : Blk w8 C 116 F)
    (hV : Hid ((∀ j (h1 : j < vs.length) (h2 : j < ad.length), BSl wr vs[j] ad[j]) ∧ Keeps2 w12 wr)) :
    (vs ++ [Value.slice (some ⟨gb, 0, none⟩) ad[k].length kb]).length = k + 1 ∧ Below w.heap.size w (w8.setCell ⟨C, 13, none⟩ nv) ∧ Blk (w8.setCell ⟨C, 13, none⟩ nv) C 116 (F.setIfInBounds 13 nv) ∧ (w8.setCell ⟨C, 13, none⟩ nv).ownsRow w.heap.size 80 1 nv (k + 1) (vs ++ [.slice (some ⟨gb, 0, none⟩) ad[k].length kb]) ∧ Hid ((∀ j (h1 : j < (vs ++ [Value.slice (some ⟨gb, 0, none⟩) ad[k].length kb] : List Value).length) (h2 : j < ad.length), BSl (w8.setCell ⟨C, 13, none⟩ nv) (vs ++ [Value.slice (some ⟨gb, 0, none⟩) ad[k].length kb])[j] ad[j]) ∧ Keeps2 w12 (w8.setCell ⟨C, 13, none⟩ nv)) := by
  have bA : Below w1.heap.size w1 (w1.alloc (.cells #[.slice (some ⟨gb, 0, none⟩) ad[k].length kb] 80)) := (Below.refl _ _).alloc (Nat.le_refl _) _
  have K2 : Keeps2 w1 (w8.setCell ⟨C, 13, none⟩ nv) := ((Keeps2.below bA).trans (.k80 (Keeps.of_grown hr1 g8))).trans (.k116 (Keeps.setCell hF 13 nv))
  have hb1 := hbr.trans (bb.mono hbr.size)
  have hb2 := hb1.alloc hb1.size (.cells #[.slice (some ⟨gb, 0, none⟩) ad[k].length kb] 80)
  have hb3 := hb2.grown g8 hb2.size (fun q hq => (hr1.lt q hq).1)
  refine ⟨by simp [hvk], hb3.setCell hS nv, hF.set_ 13 nv, own_far o8 hF (by decide) 13 nv, ⟨fun j h1 h2 => ?_, hV.out.2.trans ((Keeps2.below bb).trans K2)⟩⟩
  rcases Nat.lt_or_ge j vs.length with hj | hj
  · rw [List.getElem_append_left hj]
    exact ((hV.out.1 j hj h2).later bb).keeps2 K2
  · have : j = k := by simp at h1; omega
    subst this
    rw [List.getElem_append_right hj]
    simp only [hvk, Nat.sub_self, List.getElem_singleton]
    exact tb.keeps2 K2
theorem SRow.keeps2 {w w' : World} {t : TypeId} {v : Value} {xs : List Value} (h : SRow w t v xs) (hk : Keeps2 w w') (h1 : t ≠ 116) (h2 : t ≠ 80) : SRow w' t v xs := by
  rcases h with h | ⟨g, cap, cur, e, hb, hr⟩
  · exact .inl h
  · exact .inr ⟨g, cap, cur, e, hk.2 g t cur h1 h2 hb, hr⟩
end Go.Proofs.YtblabjfjhlablaaGreatDoor
/- What is to be known of networks and addresses, shown. -/
namespace Go.Proofs.YtblabjfjhlablaaGreatDoor
open Go.RowKit Go.Sort Nc
theorem NetsLie.carry {l : List NetV} {w w' : World} {v : Value} (h : NetsLie l w v) {ts : List TypeId} (hc : Carry ts w w') (h5 : 5 ∈ ts) (h177 : 177 ∈ ts) (h121 : 121 ∈ ts) : NetsLie l w' v := by
  obtain ⟨m, h1, h2, h3⟩ := h
  refine ⟨m, h1, ?_, fun x hx => (h3 x hx).carry hc h5 h177⟩
  rcases h2 with h2 | ⟨g, cap, cur, e, hb, hr⟩
  · exact .inl h2
  · exact .inr ⟨g, cap, cur, e, hc _ _ _ h121 hb, hr⟩
def lieTypes : List TypeId := [5, 177, 121]
theorem NetsLie.later' {l : List NetV} {w w' : World} {v : Value} (h : NetsLie l w v) (hb : Below w.heap.size w w') : NetsLie l w' v := h.carry (ts := lieTypes) (.below hb) (by decide) (by decide) (by decide)
theorem NetsLie.keeps2 {l : List NetV} {w w' : World} {v : Value} (h : NetsLie l w v) (hk : Keeps2 w w') : NetsLie l w' v :=
  h.carry (ts := lieTypes) (fun g t cs ht hb => hk.2 g t cs (fun e => by subst e; revert ht; decide) (fun e => by subst e; revert ht; decide) hb) (by decide) (by decide) (by decide)
theorem AddrRow.later {l : List (List UInt8)} {w w' : World} {v : Value} (h : AddrRow l w v) (hb : Below w.heap.size w w') : AddrRow l w' v := by
  obtain ⟨vs, h1, h2, h3⟩ := h
  exact ⟨vs, h1, h2.later hb, fun j a b => (h3 j a b).later hb⟩
theorem AddrRow.keeps {l : List (List UInt8)} {w w' : World} {v : Value} (h : AddrRow l w v) (hb : Keeps 66 w w') : AddrRow l w' v := by
  obtain ⟨vs, h1, h2, h3⟩ := h
  exact ⟨vs, h1, hb.srow h2 (by decide), fun j a b => (h3 j a b).carry (ts := [5]) (.keeps hb (by decide)) (by simp)⟩
/-- Networks and addresses as the package holds them. -/
def XIP : IpKit where
  lies := NetsLie
  is := IsIp
  row := AddrRow
  ask := askNet
  okN := fun l => l.length ≤ 1000000 ∧ ∀ n ∈ l, NetOk n
  okA := fun a => addrB a = true
theorem XIP_fit : XIP.Fit where
  liesLater := fun _ _ _ _ h hb => h.later' hb
  liesKeeps := fun _ _ _ _ h hb => h.carry (ts := lieTypes) (.keeps hb (by decide)) (by decide) (by decide) (by decide)
  rowLater := fun _ _ _ _ h hb => h.later hb
  rowKeeps := fun _ _ _ _ h hb => h.keeps hb
  isKeep := fun _ _ _ _ h hb => h.keep hb
  made := fun l w v ok h => by
    obtain ⟨m, rfl, h2, h3⟩ := h
    by_cases hm : m = []
    · subst hm
      obtain ⟨A, c, rfl⟩ := SRow.zero h2
      refine (newIP_nil A c w).mono ?_
      rintro e w' ⟨rfl, rfl⟩
      exact makes_true (.inl ⟨rfl, rfl⟩) (Below.refl _ _)
    · exact newIP_some m v w h2 h3 (fun x hx => ok.2 _ (List.mem_map.2 ⟨x, hx, rfl⟩)) hm (by have := ok.1; rw [List.length_map] at this; exact this)
  askNil := fun a => rfl
  check := fun ty p e ad v a0 a1 w hty hp he ha hv h0 h1 => by
    obtain ⟨vs, hl, hr, hb⟩ := hv
    refine ⟨fun k => vs.getD k undef, ?_, fun k hk => ?_, fun k hk W hW => ?_⟩
    · have := hr.reads (fun k => vs.getD k undef) (fun k u hu => by simp [List.getD_eq_getElem?_getD, hu])
      rw [hl] at this
      exact this
    · have hk' : k < vs.length := by omega
      have e : vs.getD k undef = vs[k] := by simp [hk']
      obtain ⟨g, c, e2⟩ := (hb k hk' hk).val
      show (vs.getD k undef).cells = #[vs.getD k undef] ∧ (vs.getD k undef).oneCell' = true
      rw [e, e2]
      exact ⟨rfl, rfl⟩
    · have hk' : k < vs.length := by omega
      have e : vs.getD k undef = vs[k] := by simp [hk']
      have hs := hb k hk' hk
      obtain ⟨g, c, e2⟩ := hs.val
      have q0 := (IsIp.later h0 hW).asked _ _ (hs.later hW) (ha _ (List.getElem_mem hk))
      have q1 := (IsIp.later h1 hW).asked _ _ (hs.later hW) (ha _ (List.getElem_mem hk))
      show Calls Tryz.prog 106 #[.agg #[.string ty, a0, a1], vs.getD k undef, vs.getD k undef] W _
      rw [e]
      rw [e2] at q0 q1 ⊢
      exact check106_calls ty _ _ _ a0 a1 _ _ W q0 q1 hty
end Go.Proofs.YtblabjfjhlablaaGreatDoor
