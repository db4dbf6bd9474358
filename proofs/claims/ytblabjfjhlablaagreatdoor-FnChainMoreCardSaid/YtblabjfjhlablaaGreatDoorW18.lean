/- The chain's data where certificates have names and constraints of DNS alone. -/
import Derived.Test.YtblabjfjhlablaaGreatDoorW16
import Derived.Test.YtblabjfjhlablaaGreatDoorW17
import Derived.Test.YtblabjfjhlablaaGreatDoorW13
namespace Go.Proofs.YtblabjfjhlablaaGreatDoor
open Go.RowKit Nc
/-- What constraints of DNS say of a name: nothing where there are none. -/
def askDns (l : List ByteArray) (s : ByteArray) : Option Bool := if l = [] then none else some (meets l s)
/-- A name that is fit for a check. -/
structure FitName (s : ByteArray) : Prop where
  pos : 0 < s.size
  size : s.size ≤ 300
  noz : NoZ s.data.toList
  star : NoStar s
  valid : dnv s = true
theorem IsDns.keep {w w' : World} {l : List ByteArray} {perm : Bool} {v : Value} (h : IsDns w l perm v) (hb : Keep100 w w') : IsDns w' l perm v := by
  rcases h with h | ⟨D, h1, h2, h3⟩
  · exact .inl h
  · refine .inr ⟨D, h1, h2, ?_⟩
    rcases h3 with ⟨h3, h4⟩ | ⟨d, S, g, cap, cur, P, m, e1, b1, b2, b3, h4⟩
    · exact .inl ⟨h3, hb.blk h4 (by decide)⟩
    · exact .inr ⟨d, S, g, cap, cur, P, m, e1, hb.blk b1 (by decide), hb.blk b2 (by decide), hb.blk b3 (by decide), h4⟩
theorem IsDns.asked {w : World} {l : List ByteArray} {perm : Bool} {v : Value} (h : IsDns w l perm v) (s : ByteArray) (hs : FitName s) : Asked 131 240 w v (.string s) (askDns l s) := by
  by_cases hl : l = []
  · subst hl
    rcases h with ⟨_, h⟩ | ⟨D, _, h, _⟩
    · exact .inl ⟨h, by simp [askDns]⟩
    · exact absurd rfl h
  · obtain ⟨D, hv, hD, _⟩ := dnsQuery_calls l perm v ⟨s, hs.pos, hs.size, hs.noz⟩ w h hl hs.star
    refine .inr ⟨D, meets l s, hv, by simp [askDns, hl], fun W hW => ?_⟩
    obtain ⟨D', hv', _, hq⟩ := dnsQuery_calls l perm v ⟨s, hs.pos, hs.size, hs.noz⟩ W (h.later hW) hl hs.star
    rw [hv] at hv'
    injection hv' with _ hv'
    injection hv' with hv'
    injection hv' with hv'
    injection hv' with hv'
    subst hv'
    refine hq.mono ?_
    rintro e w' ⟨c, rfl, hb⟩
    exact ⟨.string c, rfl, hb⟩
theorem newDns_makes (l : List ByteArray) (perm : Bool) (v : Value) (w : World) (hv : SRow w 9 v (l.map Value.string)) (hl : l.length ≤ 1000000) (hok : PlainL l) (hL : Laid w) :
    Calls Tryz.prog 73 #[v, .bool perm] w (Makes (fun W u => IsDns W l perm u) w) := by
  refine (newDns_calls l perm v w hv hl hok hL).mono ?_
  rintro e w' ⟨u, rfl, hu, hb⟩
  refine ⟨u, rfl, ?_, ?_, hu, hb⟩
  · rcases hu with ⟨_, rfl⟩ | ⟨D, rfl, _⟩ <;> rfl
  · rcases hu with ⟨_, rfl⟩ | ⟨D, rfl, _⟩ <;> rfl
theorem SRow.zero {w : World} {t : TypeId} {v : Value} (h : SRow w t v []) : ∃ A c, v = .slice A 0 c := by
  rcases h with ⟨h, _⟩ | ⟨g, cap, cur, h, _⟩
  · exact ⟨_, _, h⟩
  · exact ⟨_, _, h⟩
theorem SRow.reads {w : World} {t : TypeId} {v : Value} {xs : List Value} (h : SRow w t v xs) (x : Nat → Value) (hx : ∀ k u, xs[k]? = some u → x k = u) : Reads1 w t v xs.length x := by
  rcases h with ⟨h, rfl⟩ | ⟨g, cap, cur, h, hb, _, _, _, hc⟩
  · exact ⟨none, 0, h, fun h => absurd h (by simp)⟩
  · exact ⟨_, cap, h, fun _ => ⟨g, cur, rfl, hb, fun k hk => by
      have := List.getElem?_eq_getElem hk
      rw [hx k _ this]
      exact hc k _ this⟩⟩
/-- A certificate of DNS alone. -/
structure DCert where
  p : List ByteArray
  e : List ByteArray
  s : List ByteArray
def DCert.nc (c : DCert) : Bool := decide (0 < c.p.length + c.e.length)
def DCert.hn (c : DCert) : Bool := decide (0 < c.s.length)
structure DCert.Ok (c : DCert) : Prop where
  p : PlainL c.p
  e : PlainL c.e
  s : ∀ s ∈ c.s, FitName s
  lp : c.p.length ≤ 1000000
  le : c.e.length ≤ 1000000
  ls : c.s.length ≤ 1000000
/-- Some name is refused by the constraints. -/
def dnsBad (c by_ : DCert) : Bool := c.s.any fun s => ruledOut (askDns by_.p s) (askDns by_.e s)
def fst3 (a b c : List ByteArray) (k : Nat) : List ByteArray := match k with | 0 => a | 1 => b | 2 => c | _ => []
/-- The certificate as it lies in memory. -/
def DMade (c : DCert) (C : Nat) (cv : Nat → Value) (w : World) : Prop :=
  CertMade (fst3 c.p [] []) (fst3 c.e [] []) (fst3 c.s [] []) (fun _ v => v = .slice none 0 0) (fun _ v => v = .slice none 0 0) (fun v => v = .slice none 0 0) c.nc c.hn w C cv
def dnsData (cs : Nat → DCert) (n : Nat) (C : Nat → Nat) (cv : Nat → Nat → Value) : ChainData where
  n := n
  nc := fun i => (cs i).nc
  hn := fun i => (cs i).hn
  C := C
  cv := cv
  φ := fun i q w v => match q with | 2 => IsDns w (cs i).p true v | 3 => IsDns w (cs i).e false v | _ => True
  ψ := fun _ _ _ u => ∃ A c, u = .slice A 0 c
  bad := fun i j => dnsBad (cs i) (cs j)
theorem DMade.later {c : DCert} {C : Nat} {cv : Nat → Value} {w w' : World} (h : DMade c C cv w) (hb : Below w.heap.size w w') : DMade c C cv w' := by
  obtain ⟨h1, h2, h3, h4, h5, h6, h7, h8, h9, h10, h11, h12, h13⟩ := h
  exact ⟨h1.later hb, h2.later hb, h3.later hb, h4, h5, h6.later hb, h7.later hb, h8.later hb, h9.later hb, h10.later hb, h11.later hb, h12.later hb, h13⟩
theorem makes_true {φ : World → Value → Prop} {w w' : World} (h : φ w' .nilIface) (hb : Below w.heap.size w w') : Makes φ w (.returned .nilIface) w' := ⟨_, rfl, rfl, rfl, h, hb⟩
theorem dnsNames_ok (c by_ : DCert) (T : Nat → ByteArray) (hT : (T 1).size ≤ 100) (a : Nat → Value) (W : World) (hc : c.Ok) (h2 : IsDns W by_.p true (a 2)) (h3 : IsDns W by_.e false (a 3)) :
    NamesOk { nIp := 0, nDns := c.s.length, nUri := 0, nMail := 0, ipv := fun _ => .nilIface, dn := fun k => c.s.getD k ByteArray.empty, uo := fun _ => ByteArray.empty, ud := fun _ => ByteArray.empty, ml := fun _ => ByteArray.empty, md := fun _ => ByteArray.empty,
              ipb := fun _ => false, dnb := fun k => ruledOut (askDns by_.p (c.s.getD k ByteArray.empty)) (askDns by_.e (c.s.getD k ByteArray.empty)), urb := fun _ => false, mab := fun _ => false } T a W where
  sizes := ⟨by simp, hc.ls, by simp, by simp⟩
  ip1 := fun k hk => absurd hk (by simp)
  ip := fun k hk => absurd hk (by simp)
  dns0 := fun k hk => by
    have hk : k < c.s.length := hk
    have := hc.s c.s[k] (List.getElem_mem hk)
    simp only [List.getD_eq_getElem?_getD, List.getElem?_eq_getElem hk, Option.getD_some]
    exact ⟨by have := this.size; omega, this.valid⟩
  dns := fun k hk W' hW => by
    have hk : k < c.s.length := hk
    have hf := hc.s c.s[k] (List.getElem_mem hk)
    simp only [List.getD_eq_getElem?_getD, List.getElem?_eq_getElem hk, Option.getD_some]
    exact check109_calls _ _ _ _ _ _ W' ((h2.later hW).asked _ hf) ((h3.later hW).asked _ hf) hT
  uri0 := fun k hk => absurd hk (by simp)
  uri := fun k hk => absurd hk (by simp)
  mail0 := fun k hk => absurd hk (by simp)
  mail := fun k hk => absurd hk (by simp)
theorem dnsCheck_calls (c by_ : DCert) (T : Nat → ByteArray) (hT : (T 1).size ≤ 100) (a : Nat → Value) (j b : Nat) (nx v1 v2 v3 v4 : Value) (W : World) (hc : c.Ok) (h2 : IsDns W by_.p true (a 2)) (h3 : IsDns W by_.e false (a 3)) (hb : Blk W b 100 (ccT T a j nx))
    (h1 : SRow W 9 v1 (c.s.map .string)) (hu : ∃ A c, v2 = .slice A 0 c) (hm : ∃ A c, v3 = .slice A 0 c) (hi : ∃ A c, v4 = .slice A 0 c) :
    Calls Tryz.prog 74 #[.pointer (some ⟨b, 0, none⟩), v1, v2, v3, v4] W (Says (dnsBad c by_) W) := by
  obtain ⟨A2, c2, rfl⟩ := hu
  obtain ⟨A3, c3, rfl⟩ := hm
  obtain ⟨A4, c4, rfl⟩ := hi
  have hr := h1.reads (fun k => .string (c.s.getD k ByteArray.empty)) (fun k u hk => by
    simp only [List.getElem?_map, Option.map_eq_some_iff] at hk
    obtain ⟨s, hs, rfl⟩ := hk
    simp [List.getD_eq_getElem?_getD, hs])
  rw [List.length_map] at hr
  refine check_calls _ T a j b nx v1 (.slice A2 0 c2) (.slice A3 0 c3) (.slice A4 0 c4) W (dnsNames_ok c by_ T hT a W hc h2 h3) hb ⟨A4, c4, rfl, fun h => absurd h (by simp)⟩ hr ⟨A2, c2, rfl, fun h => absurd h (by simp)⟩ ⟨A3, c3, rfl, fun h => absurd h (by simp)⟩
    (dnsBad c by_) (fun k hk => absurd hk (by simp)) (fun k hk hb => ?_) (fun k hk => absurd hk (by simp)) (fun k hk => absurd hk (by simp)) (fun _ hd _ _ => ?_)
  · have hk : k < c.s.length := hk
    simp only [List.getD_eq_getElem?_getD, List.getElem?_eq_getElem hk, Option.getD_some] at hb
    exact List.any_eq_true.2 ⟨c.s[k], List.getElem_mem hk, hb⟩
  · refine List.any_eq_false.2 (fun s hs => ?_)
    obtain ⟨k, hk, rfl⟩ := List.getElem_of_mem hs
    have := hd k hk
    simp only [List.getD_eq_getElem?_getD, List.getElem?_eq_getElem hk, Option.getD_some] at this
    simpa using this
theorem dnsChain_ok (cs : Nat → DCert) (n : Nat) (C : Nat → Nat) (cv : Nat → Nat → Value) (w : World) (hL : Laid w) (hok : ∀ i, i < n → (cs i).Ok) (hm : ∀ i, i < n → DMade (cs i) (C i) (cv i) w) : ChainOk (dnsData cs n C cv) w where
  cert := fun i hi => (hm i hi).1
  φmono := fun i q W W' v h hk => by
    match q with
    | 0 => trivial
    | 1 => trivial
    | 2 => exact IsDns.keep h hk
    | 3 => exact IsDns.keep h hk
    | q + 4 => trivial
  ψmono := fun i q W W' v h hk => h
  ip0 := fun i hi hnc W hW => by
    have h := (hm i hi).2.2.2.1
    simp only [dnsData, h]
    refine (newIP_nil none 0 W).mono ?_
    rintro e w' ⟨rfl, rfl⟩
    exact makes_true trivial (Below.refl _ _)
  ip1 := fun i hi hnc W hW => by
    have h := (hm i hi).2.2.2.2.1
    simp only [dnsData, h]
    refine (newIP_nil none 0 W).mono ?_
    rintro e w' ⟨rfl, rfl⟩
    exact makes_true trivial (Below.refl _ _)
  dns0 := fun i hi hnc W hW => newDns_makes (cs i).p true _ W ((hm i hi).2.1.later hW) (hok i hi).lp (hok i hi).p (hL.keep hW)
  dns1 := fun i hi hnc W hW => newDns_makes (cs i).e false _ W ((hm i hi).2.2.1.later hW) (hok i hi).le (hok i hi).e (hL.keep hW)
  uri0 := fun i hi hnc W hW => by
    obtain ⟨A, c, h⟩ := SRow.zero (hm i hi).2.2.2.2.2.2.2.1
    simp only [dnsData, h]
    refine (newDns_nil true c A W).mono ?_
    rintro e w' ⟨u, rfl, hu, hb⟩
    exact ⟨u, rfl, by rcases hu with ⟨_, rfl⟩ | ⟨D, rfl, _⟩ <;> rfl, by rcases hu with ⟨_, rfl⟩ | ⟨D, rfl, _⟩ <;> rfl, trivial, hb⟩
  uri1 := fun i hi hnc W hW => by
    obtain ⟨A, c, h⟩ := SRow.zero (hm i hi).2.2.2.2.2.2.2.2.1
    simp only [dnsData, h]
    refine (newDns_nil false c A W).mono ?_
    rintro e w' ⟨u, rfl, hu, hb⟩
    exact ⟨u, rfl, by rcases hu with ⟨_, rfl⟩ | ⟨D, rfl, _⟩ <;> rfl, by rcases hu with ⟨_, rfl⟩ | ⟨D, rfl, _⟩ <;> rfl, trivial, hb⟩
  mail0 := fun i hi hnc W hW => by
    obtain ⟨A, c, h⟩ := SRow.zero (hm i hi).2.2.2.2.2.1
    simp only [dnsData, h]
    refine (newMail_nil A c true W).mono ?_
    rintro e w' ⟨rfl, rfl⟩
    exact makes_true trivial (Below.refl _ _)
  mail1 := fun i hi hnc W hW => by
    obtain ⟨A, c, h⟩ := SRow.zero (hm i hi).2.2.2.2.2.2.1
    simp only [dnsData, h]
    refine (newMail_nil A c false W).mono ?_
    rintro e w' ⟨rfl, rfl⟩
    exact makes_true trivial (Below.refl _ _)
  uris := fun i hi hnc W hW => by
    obtain ⟨A, c, h⟩ := SRow.zero (hm i hi).2.2.2.2.2.2.2.2.2.2.2.1
    simp only [dnsData, h]
    refine (parseURIs_nil A c W).mono ?_
    rintro e w' ⟨A', c', rfl, hb⟩
    exact ⟨_, rfl, ⟨A', c', rfl⟩, hb⟩
  mails := fun i hi hnc W hW => by
    obtain ⟨A, c, h⟩ := SRow.zero (hm i hi).2.2.2.2.2.2.2.2.2.2.1
    simp only [dnsData, h]
    refine (parseMails_nil A c W).mono ?_
    rintro e w' ⟨A', c', rfl, hb⟩
    exact ⟨_, rfl, ⟨A', c', rfl⟩, hb⟩
  check := fun i j hij hj hhn hnc W a u m nx b hW hb hφ hu hm' => by
    have hi : i < n := Nat.lt_trans hij hj
    exact dnsCheck_calls (cs i) (cs j) stdT (by decide) a j b nx _ u m _ W (hok i hi) (hφ 2 (by omega)) (hφ 3 (by omega)) hb ((hm i hi).2.2.2.2.2.2.2.2.2.1.later hW) hu hm' ⟨none, 0, (hm i hi).2.2.2.2.2.2.2.2.2.2.2.2⟩
/-- A chain of certificates of DNS alone: refused just where a name is, by the constraints of a certificate behind its own. -/
def dnsRefused (cs : Nat → DCert) (n : Nat) : Prop := ∃ i j, i < j ∧ j < n ∧ dnsBad (cs i) (cs j) = true
theorem dnsChainCheck_calls (cs : Nat → DCert) (n : Nat) (C : Nat → Nat) (cv : Nat → Nat → Value) (g cap : Nat) (cur : Array Value) (w : World) (hL : Laid w) (hok : ∀ i, i < n → (cs i).Ok) (hm : ∀ i, i < n → DMade (cs i) (C i) (cv i) w)
    (hg : Blk w g 66 cur) (hc : ∀ i, i < n → cur[i]? = some (.pointer (some ⟨C i, 0, none⟩))) (hn : n ≤ 1000000) (R : Bool) (hR : R = true ↔ dnsRefused cs n) :
    Calls Tryz.prog 86 #[.slice (some ⟨g, 0, none⟩) n cap] w (Says R w) := by
  refine chainCheck_calls (dnsData cs n C cv) g cap cur w (dnsChain_ok cs n C cv w hL hok hm) hg hc hn R (fun i j hij hj _ _ hb => hR.2 ⟨i, j, hij, hj, hb⟩) (fun h => ?_)
  cases R with
  | false => rfl
  | true =>
    obtain ⟨i, j, hij, hj, hb⟩ := hR.1 rfl
    have hb2 := hb
    unfold dnsBad at hb2
    obtain ⟨s, hs, hr⟩ := List.any_eq_true.1 hb2
    have h1 : (cs i).hn = true := by
      unfold DCert.hn
      exact decide_eq_true (List.length_pos_of_mem hs)
    have h2 : (cs j).nc = true := by
      unfold DCert.nc
      refine decide_eq_true ?_
      unfold ruledOut askDns at hr
      by_cases hp : (cs j).p = []
      · by_cases he : (cs j).e = []
        · simp [hp, he] at hr
        · have := List.length_pos_iff.2 he; omega
      · have := List.length_pos_iff.2 hp; omega
    have := h i j hij hj h1 h2
    simp only [dnsData] at this
    rw [hb] at this
    cases this
theorem DMade.keeps {c : DCert} {C : Nat} {cv : Nat → Value} {w w' : World} (h : DMade c C cv w) (hb : Keeps 66 w w') : DMade c C cv w' := by
  obtain ⟨h1, h2, h3, h4, h5, h6, h7, h8, h9, h10, h11, h12, h13⟩ := h
  exact ⟨hb.blk h1 (by decide), hb.srow h2 (by decide), hb.srow h3 (by decide), h4, h5, hb.srow h6 (by decide), hb.srow h7 (by decide), hb.srow h8 (by decide), hb.srow h9 (by decide), hb.srow h10 (by decide), hb.srow h11 (by decide), hb.srow h12 (by decide), h13⟩
def only0 {α : Type} (x y : α) (j : Nat) : α := match j with | 0 => x | _ => y
theorem networks_makes (A : Option Addr) (c : Nat) (W : World) : Calls Tryz.prog 66 #[.slice A 0 c] W (Makes (fun _ v => v = .slice none 0 0) W) := by
  refine (networks_nil A c W).mono ?_
  rintro e w' ⟨rfl, rfl⟩
  exact ⟨_, rfl, rfl, rfl, rfl, Below.refl _ _⟩
theorem only0_reads (w : World) (A : Option Addr) (l : List ByteArray) (h : Reads w w.heap.size 1 A l.length (l.map .string)) : ∀ k, k < 3 → Reads w w.heap.size 1 (only0 A none k) (only0 l.length 0 k) ((fst3 l [] [] k).map .string) := fun k hk => by
  match k with
  | 0 => exact h
  | 1 => exact .none_
  | 2 => exact .none_
  | k + 3 => omega
theorem only0_le (l : List ByteArray) (h : l.length ≤ 1000000) : ∀ k, only0 l.length 0 k ≤ 1000000 := fun k => by
  match k with
  | 0 => exact h
  | k + 1 => exact Nat.zero_le _
theorem someAny_only0 (n : Nat) : someAny (only0 n 0) = decide (0 < n) := rfl
/-- A certificate of DNS alone is made. -/
theorem dnsCert_calls (c : DCert) (pA eA sA : Option Addr) (pc ec sc : Nat) (w : World) (hok : c.Ok) (hp : Reads w w.heap.size 1 pA c.p.length (c.p.map .string)) (he : Reads w w.heap.size 1 eA c.e.length (c.e.map .string)) (hs : Reads w w.heap.size 1 sA c.s.length (c.s.map .string)) :
    Calls Tryz.prog 54 #[cval (only0 pA none) (only0 eA none) (only0 sA none) (only0 c.p.length 0) (only0 c.e.length 0) (only0 c.s.length 0) (only0 pc 0) (only0 ec 0) (only0 sc 0)] w fun e w' => ∃ C, e = .returned (.pointer (some ⟨C, 0, none⟩)) ∧ Below w.heap.size w w' ∧ ∃ cv, DMade c C cv w' := by
  refine (certificate_calls (only0 pA none) (only0 eA none) (only0 sA none) (only0 c.p.length 0) (only0 c.e.length 0) (only0 c.s.length 0) (only0 pc 0) (only0 ec 0) (only0 sc 0) (fst3 c.p [] []) (fst3 c.e [] []) (fst3 c.s [] []) (fun _ v => v = .slice none 0 0) (fun _ v => v = .slice none 0 0) w
    (only0_le _ hok.lp) (only0_le _ hok.le) (only0_le _ hok.ls) (only0_reads w pA c.p hp) (only0_reads w eA c.e he) (only0_reads w sA c.s hs) (fun W _ => networks_makes _ _ W) (fun W _ => networks_makes _ _ W) (fun _ _ _ h _ => h) (fun _ _ _ h _ => h) rfl).mono ?_
  rintro e w' ⟨C, rfl, hb, _, cv, hm⟩
  refine ⟨C, rfl, hb, cv, ?_⟩
  have e1 : (someAny (only0 c.p.length 0) || someAny (only0 c.e.length 0)) = c.nc := by
    rw [someAny_only0, someAny_only0]
    unfold DCert.nc
    rw [← Bool.decide_or]
    exact decide_eq_decide.2 (by omega)
  rw [e1] at hm
  exact hm
theorem dnsChain_calls (cs : Nat → DCert) (n c : Nat) (A : Option Addr) (pA eA sA : Nat → Option Addr) (pc ec sc : Nat → Nat) (w : World) (hL : Laid w) (hn : n ≤ 100000) (hn0 : 0 < n) (hok : ∀ i, i < n → (cs i).Ok)
    (hA : CertsAt w A n (fun k j => .slice (only0 (pA k) none j) (only0 (cs k).p.length 0 j) (only0 (pc k) 0 j)) (fun k j => .slice (only0 (eA k) none j) (only0 (cs k).e.length 0 j) (only0 (ec k) 0 j)) (fun k j => .slice (only0 (sA k) none j) (only0 (cs k).s.length 0 j) (only0 (sc k) 0 j)))
    (hp : ∀ i, i < n → Reads w w.heap.size 1 (pA i) (cs i).p.length ((cs i).p.map .string)) (he : ∀ i, i < n → Reads w w.heap.size 1 (eA i) (cs i).e.length ((cs i).e.map .string)) (hs : ∀ i, i < n → Reads w w.heap.size 1 (sA i) (cs i).s.length ((cs i).s.map .string))
    (R : Bool) (hR : R = true ↔ dnsRefused cs n) :
    Calls Tryz.prog 21 #[.slice A n c] w fun e w' => e = .returned (.int .i64 (codeB R)) ∧ Below w.heap.size w w' := by
  refine chain_calls A n c (fun k => only0 (pA k) none) (fun k => only0 (eA k) none) (fun k => only0 (sA k) none) (fun k => only0 (cs k).p.length 0) (fun k => only0 (cs k).e.length 0) (fun k => only0 (cs k).s.length 0) (fun k => only0 (pc k) 0) (fun k => only0 (ec k) 0) (fun k => only0 (sc k) 0)
    (fun i C W => ∃ cv, DMade (cs i) C cv W) w hA hn R (fun i C W W' h hk => ?_) (fun i hi W hW => ?_) (fun W v C hW hG hv => ?_)
  · obtain ⟨cv, h⟩ := h
    exact ⟨cv, h.keeps hk⟩
  · exact dnsCert_calls (cs i) (pA i) (eA i) (sA i) (pc i) (ec i) (sc i) W (hok i hi) (((hp i hi).below hW).more hW.size) (((he i hi).below hW).more hW.size) (((hs i hi).below hW).more hW.size)
  · have hcv : ∃ cv : Nat → Nat → Value, ∀ i, i < n → DMade (cs i) (C i) (cv i) W := by
      refine ⟨fun i => if h : i < n then Classical.choose (hG i h) else fun _ => .nilIface, fun i hi => ?_⟩
      have := Classical.choose_spec (hG i hi)
      simpa [hi] using this
    obtain ⟨cv, hm⟩ := hcv
    have hne : ((List.range n).map fun i => Value.pointer (some ⟨C i, 0, none⟩)) ≠ [] := by
      intro h
      have := congrArg List.length h
      simp at this
      omega
    obtain ⟨g, cap, cur, rfl, hg, _, _, _, hc⟩ := hv.more hne
    rw [List.length_map, List.length_range]
    exact dnsChainCheck_calls cs n C cv g cap cur W (hL.keep hW) hok hm hg (fun i hi => hc i _ (by simp [hi])) (by omega) R hR
end Go.Proofs.YtblabjfjhlablaaGreatDoor
