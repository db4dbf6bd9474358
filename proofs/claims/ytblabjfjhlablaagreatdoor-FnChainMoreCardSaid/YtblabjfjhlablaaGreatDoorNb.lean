/- The walks of search and query over networks. -/
import Derived.Test.YtblabjfjhlablaaGreatDoorN6
import Derived.Test.YtblabjfjhlablaaGreatDoorW43
import Derived.Test.YtblabjfjhlablaaGreatDoorSf
namespace Go.Proofs.YtblabjfjhlablaaGreatDoor
open Go.RowKit Go.Sort Nc
/-- What is kept of some networks of one length, for a search. -/
structure SetOf (L : Nat) (m : List NetV) (P : List NetX) : Prop where
  ok : ∀ x ∈ P, NetOk x.2 ∧ x.2.1.length = L
  asc : P.Pairwise (fun a b => ¬ cmpX b a < 0)
  anti : P.Pairwise (fun a b => subX a b = false)
  any : ∀ s : List UInt8, s.length = L → P.any (fun x => inN x.2.1 x.2.2 s) = m.any (fun n => inN n.1 n.2 s)
theorem setOf_prune {w : World} {L : Nat} (srt d : List (NetW w L)) (hp : srt.Perm d) (ha : Asc cmpP srt) : SetOf L (d.map (·.val.2)) ((prune subP srt).map (·.val)) where
  ok x hx := by
    obtain ⟨y, _, rfl⟩ := List.mem_map.1 hx
    exact ⟨y.property.2.1, y.property.2.2⟩
  asc := List.pairwise_map.2 (List.Pairwise.sublist (prune_sub srt) ha)
  anti := List.pairwise_map.2 (prune_anti netLam srt ha)
  any s hs := by
    rw [List.any_map, List.any_map]
    have h := prune_any netLam (⟨s, hs⟩ : { s : List UInt8 // s.length = L }) srt
    simp only at h
    show (prune subP srt).any (fun x => inN x.val.2.1 x.val.2.2 s) = d.any (fun x => inN x.val.2.1 x.val.2.2 s)
    rw [h]
    exact hp.any_eq
/-- A set of constraints as newIPNetConstraints makes it. -/
def IsSet (w : World) (L : Nat) (m : List NetV) (u : Value) : Prop :=
  (m = [] ∧ u = .pointer none) ∨ ∃ (S g cap : Nat) (cur : Array Value) (P : List NetX), u = .pointer (some ⟨S, 0, none⟩) ∧ Blk w S 182 #[.slice (some ⟨g, 0, none⟩) P.length cap] ∧ Blk w g 121 cur ∧ RowHas encX P cur ∧ P ≠ [] ∧ P.length ≤ 1000000 ∧ (∀ x ∈ P, NetAt w x) ∧ SetOf L m P
theorem IsSet.carry {w w' : World} {L : Nat} {m : List NetV} {u : Value} (h : IsSet w L m u) {ts : List TypeId} (hc : Carry ts w w') (h5 : 5 ∈ ts) (h177 : 177 ∈ ts) (h182 : 182 ∈ ts) (h121 : 121 ∈ ts) : IsSet w' L m u := by
  rcases h with h | ⟨S, g, cap, cur, P, h1, h2, h3, h4, h5', h6, h7, h8⟩
  · exact .inl h
  · exact .inr ⟨S, g, cap, cur, P, h1, hc _ _ _ h182 h2, hc _ _ _ h121 h3, h4, h5', h6, fun x hx => (h7 x hx).carry hc h5 h177, h8⟩
def len4B (n : NetV) : Bool := n.1.length == 4
/-- What newIPNetConstraints comes to. -/
def IsIp (l : List NetV) (w : World) (v : Value) : Prop :=
  (l = [] ∧ v = .nilIface) ∨ ∃ (D : Nat) (u4 u6 : Value), v = .iface 186 (.pointer (some ⟨D, 0, none⟩)) ∧ l ≠ [] ∧ (∀ n ∈ l, NetOk n) ∧ Blk w D 188 #[u4, u6] ∧ IsSet w 4 (l.filter len4B) u4 ∧ IsSet w 16 (l.filter (fun n => !len4B n)) u6
theorem IsIp.carry {w w' : World} {l : List NetV} {v : Value} (h : IsIp l w v) {ts : List TypeId} (hc : Carry ts w w') (h5 : 5 ∈ ts) (h177 : 177 ∈ ts) (h182 : 182 ∈ ts) (h121 : 121 ∈ ts) (h188 : 188 ∈ ts) : IsIp l w' v := by
  rcases h with h | ⟨D, u4, u6, h1, h2, h3, h4, h5', h6⟩
  · exact .inl h
  · exact .inr ⟨D, u4, u6, h1, h2, h3, hc _ _ _ h188 h4, h5'.carry hc h5 h177 h182 h121, h6.carry hc h5 h177 h182 h121⟩
def ipTypes : List TypeId := [5, 177, 182, 121, 188]
theorem IsIp.later {w w' : World} {l : List NetV} {v : Value} (h : IsIp l w v) (hb : Below w.heap.size w w') : IsIp l w' v := h.carry (ts := ipTypes) (.below hb) (by decide) (by decide) (by decide) (by decide) (by decide)
theorem IsIp.keep {w w' : World} {l : List NetV} {v : Value} (h : IsIp l w v) (hb : Keep100 w w') : IsIp l w' v := h.carry (ts := ipTypes) (.keep100 hb (by decide)) (by decide) (by decide) (by decide) (by decide) (by decide)
section
variable {α β : Type} [Inhabited α] {cmp : α → α → Int} {sub : α → α → Bool} {cmpT : α → β → Int} {mat : α → β → Bool}
def binK (cft : α → Int) (P : List α) : Nat := P.countP (fun x => decide (cft x < 0))
def hitK (cft : α → Int) (P : List α) : Bool := decide (binK cft P < P.length) && decide (cft P[binK cft P]! = 0)
theorem searchedK (P : List α) (s : β) (h : P ≠ []) : searched cmpT mat P s = (hitK (fun x => cmpT x s) P || mat P[binK (fun x => cmpT x s) P - 1]! s) := by
  unfold searched
  rw [if_neg (fun e => h (List.eq_nil_of_length_eq_zero e))]
  show (if binK (fun x => cmpT x s) P < P.length ∧ cmpT P[binK (fun x => cmpT x s) P]! s = 0 then true else if binK (fun x => cmpT x s) P = 0 then mat P[0]! s else mat P[binK (fun x => cmpT x s) P - 1]! s) = _
  by_cases hh : binK (fun x => cmpT x s) P < P.length ∧ cmpT P[binK (fun x => cmpT x s) P]! s = 0
  · rw [if_pos hh]
    have : hitK (fun x => cmpT x s) P = true := by unfold hitK; rw [decide_eq_true hh.1, decide_eq_true hh.2]; rfl
    rw [this]; rfl
  · rw [if_neg hh]
    have : hitK (fun x => cmpT x s) P = false := by
      unfold hitK
      by_cases h1 : binK (fun x => cmpT x s) P < P.length
      · rw [decide_eq_false (fun h2 => hh ⟨h1, h2⟩), Bool.and_false]
      · rw [decide_eq_false h1]; rfl
    rw [this, Bool.false_or]
    by_cases h0 : binK (fun x => cmpT x s) P = 0
    · rw [if_pos h0, h0]
    · rw [if_neg h0]
omit [Inhabited α] in
theorem binK_le (cft : α → Int) (P : List α) : binK cft P ≤ P.length := List.countP_le_length
theorem hitK_lt {cft : α → Int} {P : List α} (h : hitK cft P = true) : binK cft P < P.length := by
  unfold hitK at h
  rw [Bool.and_eq_true] at h
  exact of_decide_eq_true h.1
end
/-- ipBinarySearch. -/
theorem netBin_calls (x : NetX) (vs : Value) (s : List UInt8) (w : World) (hx : NetAt w x) (hs : BSl w vs s) : Calls Tryz.prog 253 #[encX x, vs] w fun e w' => e = .returned (.int .i64 (cmpL x.2.1 s)) ∧ w = w' := by
  obtain ⟨va, vm, h1, h2, _⟩ := hx
  obtain ⟨pA, cA, rfl, hA⟩ := h2.byt
  obtain ⟨pS, cS, rfl, hS⟩ := hs.byt
  have HB := Lib.hid (bytesCompare_calls hA hS cA cS)
  have c0 := h1.at_ 0 rfl
  unfold encX
  generalize cmpL x.2.1 s = r at *
  clear h1 h2 hA hS hs
  go_enter Tryz.func253, Tryz.ntmps253
  go_wp2_with (fail)
  refine HB.out.mono ?_
  rintro e w1 ⟨rfl, rfl⟩
  go_wp2
  go_ret
  exact ⟨rfl, rfl⟩
/-- ipMatch. -/
theorem netMat_calls (x : NetX) (vs : Value) (s : List UInt8) (w : World) (hx : NetAt w x) (ok : NetOk x.2) (hs : BSl w vs s) (ha : addrB s = true) : Calls Tryz.prog 254 #[encX x, vs] w fun e w' => e = .returned (.bool (inN x.2.1 x.2.2 s)) ∧ Below w.heap.size w w' := by
  have HC := Lib.hid (contains_calls x vs s w hx ok hs ha)
  unfold encX
  generalize inN x.2.1 x.2.2 s = r at *
  clear hx ok hs ha
  go_enter Tryz.func254, Tryz.ntmps254
  go_wp2_with (fail)
  refine HC.out.mono ?_
  rintro e w1 ⟨rfl, q, rfl⟩
  go_wp2
  go_ret
  exact ⟨rfl, below_drewN (Below.refl _ _) q⟩
theorem netCmpT {w : World} {L g : Nat} [Inhabited (NetW w L)] {cur : Array Value} (hg : Blk w g 121 cur) (vs : Value) (s : List UInt8) (hs : BSl w vs s) (size : Nat) : CmpLaysT Tryz.prog 253 #[] (encP (w := w) (L := L)) vs (fun x => cmpL x.val.2.1 s) g 0 size w := by
  intro m os dk _ x
  have hc : Carry [5, 177] w (sortWorld encP w g 0 m dk os) := Carry.only (sortWorld_only _ _ _ _ _ _) hg (by decide)
  refine (netBin_calls x.val vs s _ (x.property.1.carry hc (by simp) (by simp)) (hs.carry hc (by simp))).mono ?_
  rintro e w' ⟨rfl, rfl⟩
  exact ⟨rfl, 0, #[], by rw [grow_empty]; rfl⟩
theorem netAsc_mono {w : World} {L : Nat} [Inhabited (NetW w L)] {P : List (NetW w L)} (h : Asc cmpP P) (s : { s : List UInt8 // s.length = L }) : ∀ a b, a ≤ b → b < P.toArray.size → cmpL P.toArray[b]!.val.2.1 s.1 < 0 → cmpL P.toArray[a]!.val.2.1 s.1 < 0 := by
  intro a b hab hb hlt
  rcases Nat.lt_or_eq_of_le hab with h1 | h1
  · rw [getElem!_pos P.toArray b hb] at hlt
    rw [getElem!_pos P.toArray a (by omega)]
    simp only [List.size_toArray] at hb
    exact netLam.mono _ _ s (List.pairwise_iff_getElem.1 h a b (by omega) hb h1) hlt
  · subst h1; exact hlt
theorem netBinS_calls {w : World} {L : Nat} [Inhabited (NetW w L)] (P : List (NetW w L)) (vs : Value) (s : { s : List UInt8 // s.length = L }) (g cap : Nat) (cur : Array Value) (hg : Blk w g 121 cur) (hP : RowHas encP P cur) (hl : P.length ≤ 1000000) (ha : Asc cmpP P) (hs : BSl w vs s.1) :
    Calls Tryz.prog 255 #[.slice (some ⟨g, 0, none⟩) P.length cap, vs, .func (.func 253) #[] #[]] w fun e w' => e = .returned (.tuple #[.int .i64 (binK (fun x : NetW w L => cmpL x.val.2.1 s.1) P : Nat), .bool (hitK (fun x : NetW w L => cmpL x.val.2.1 s.1) P)]) ∧ Below w.heap.size w w' := by
  have h := Any.slices_BinarySearchFunc Tryz.laysBin255 encP (fun _ => rfl) vs (fun x => cmpL x.val.2.1 s.1) 253 #[] g 0 cap P.toArray w eg253 (netCmpT hg vs s.1 hs _) (range_row hP hg) hg.lt (by simp; omega) (netAsc_mono ha s)
  rw [List.size_toArray] at h
  refine h.mono ?_
  rintro e w' ⟨rfl, hs⟩
  refine ⟨?_, sw_below hg hP hs⟩
  simp only [binK, hitK, List.getElem!_toArray]
  rfl
set_option maxRecDepth 100000 in
set_option maxHeartbeats 1000000 in
theorem netSearch_calls {w : World} {L : Nat} [Inhabited (NetW w L)] (P : List (NetW w L)) (vs : Value) (s : { s : List UInt8 // s.length = L }) (S g cap : Nat) (cur : Array Value) (hS : Blk w S 182 #[.slice (some ⟨g, 0, none⟩) P.length cap]) (hg : Blk w g 121 cur) (hP : RowHas encP P cur) (h0 : P ≠ []) (hl : P.length ≤ 1000000) (ha : Asc cmpP P) (hs : BSl w vs s.1) (hA : addrB s.1 = true) :
    Calls Tryz.prog 251 #[.pointer (some ⟨S, 0, none⟩), vs, .func (.func 253) #[] #[], .func (.func 254) #[] #[]] w (TellsV (searched (fun (x : NetW w L) (s : { s : List UInt8 // s.length = L }) => cmpL x.val.2.1 s.1) (fun x s => inN x.val.2.1 x.val.2.2 s.1) P s) w) := by
  have hE := searchedK (cmpT := fun (x : NetW w L) (s : { s : List UInt8 // s.length = L }) => cmpL x.val.2.1 s.1) (mat := fun x s => inN x.val.2.1 x.val.2.2 s.1) P s h0
  have hn : 0 < P.length := List.length_pos_iff.2 h0
  have hlen : ((P.length : Int) == 0) = false := ib_ne (by omega)
  have hle := binK_le (fun x : NetW w L => cmpL x.val.2.1 s.1) P
  have hb := netBinS_calls P vs s g cap cur hg hP hl ha hs
  have hlt := @hitK_lt _ _ (fun x : NetW w L => cmpL x.val.2.1 s.1) P
  have hmat := fun (x : NetW w L) (W : World) (hW : Below w.heap.size w W) => netMat_calls x.val vs s.1 W (x.property.1.later hW) x.property.2.1 (hs.later hW) hA
  generalize binK (fun x : NetW w L => cmpL x.val.2.1 s.1) P = k at *
  generalize hitK (fun x : NetW w L => cmpL x.val.2.1 s.1) P = hit at *
  generalize searched (fun (x : NetW w L) (s : { s : List UInt8 // s.length = L }) => cmpL x.val.2.1 s.1) (fun x s => inN x.val.2.1 x.val.2.2 s.1) P s = R at *
  obtain ⟨gs, cs, curs, hvs, _⟩ := hs
  have HB := Lib.hid hb
  have HM := Lib.hid hmat
  rw [hvs] at HB HM ⊢
  clear hb hmat hvs
  have c0 := hS.at_ 0 rfl
  cases hit with
  | true =>
    have hk := hlt rfl
    simp only [Bool.true_or] at hE
    subst hE
    clear hlt HM
    go_enter Tryz.func251, Tryz.ntmps251
    go_wp2_with (fail)
    refine HB.out.mono ?_
    rintro e w1 ⟨rfl, hb1⟩
    have c1 := (hS.later hb1).at_ 0 rfl
    have c2 := (hg.later hb1).at_ k (hP.2 k _ (List.getElem?_eq_getElem hk))
    unfold encP encX at c2
    clear c0 HB
    go_wp2
    go_ret2
    exact ⟨_, rfl, hb1⟩
  | false =>
    have hj : k - 1 < P.length := by omega
    rw [Bool.false_or, getElem!_pos P (k - 1) hj] at hE
    have HS := Lib.hid (HM.out P[k - 1])
    rw [← hE] at HS
    unfold encX at HS
    clear hE hlt HM
    by_cases hk0 : k = 0
    · subst hk0
      go_enter Tryz.func251, Tryz.ntmps251
      go_wp2_with (fail)
      refine HB.out.mono ?_
      rintro e w1 ⟨rfl, hb1⟩
      have c1 := (hS.later hb1).at_ 0 rfl
      have c2 := (hg.later hb1).at_ 0 (hP.2 0 _ (List.getElem?_eq_getElem hn))
      unfold encP encX at c2
      clear c0 HB
      go_wp2_with (fail)
      refine (HS.out _ hb1).mono ?_
      rintro e w2 ⟨rfl, hb2⟩
      have hb3 := hb1.trans (hb2.mono hb1.size)
      clear c1 c2 hb1 hb2 HS
      cases R with
      | true =>
        go_wp2
        go_ret2
        exact ⟨_, rfl, hb3⟩
      | false =>
        go_wp2
        go_ret2
        exact ⟨_, rfl, hb3⟩
    · obtain ⟨j, rfl⟩ : ∃ j, k = j + 1 := ⟨k - 1, by omega⟩
      have hne : (((j + 1 : Nat) : Int) == 0) = false := ib_ne (by omega)
      simp only [Nat.add_sub_cancel] at *
      go_enter Tryz.func251, Tryz.ntmps251
      go_wp2_with (fail)
      refine HB.out.mono ?_
      rintro e w1 ⟨rfl, hb1⟩
      have c1 := (hS.later hb1).at_ 0 rfl
      have c2 := (hg.later hb1).at_ j (hP.2 j _ (List.getElem?_eq_getElem hj))
      unfold encP encX at c2
      clear c0 HB
      go_wp2_with (fail)
      refine (HS.out _ hb1).mono ?_
      rintro e w2 ⟨rfl, hb2⟩
      have hb3 := hb1.trans (hb2.mono hb1.size)
      clear c1 c2 hb1 hb2 HS
      cases R with
      | true =>
        go_wp2
        go_ret2
        exact ⟨_, rfl, hb3⟩
      | false =>
        go_wp2
        go_ret2
        exact ⟨_, rfl, hb3⟩
/-- A list whose elements have what a subtype asks. -/
theorem lift_list {α : Type} (p : α → Prop) : ∀ l : List α, (∀ x ∈ l, p x) → ∃ d : List { x // p x }, l = d.map (·.val)
  | [], _ => ⟨[], rfl⟩
  | x :: l, h => by
    obtain ⟨d, hd⟩ := lift_list p l (fun y hy => h y (List.mem_cons_of_mem _ hy))
    exact ⟨⟨x, h x (List.mem_cons_self ..)⟩ :: d, by rw [List.map_cons, ← hd]⟩
theorem rowHas_map {α β : Type} {enc : β → Value} {f : α → β} {d : List α} {cur : Array Value} (h : RowHas enc (d.map f) cur) : RowHas (fun x => enc (f x)) d cur := by
  obtain ⟨h1, h2⟩ := h
  rw [List.length_map] at h1
  exact ⟨h1, fun j x hx => h2 j (f x) (by simp [hx])⟩
theorem setSearch_calls (S g cap : Nat) (cur : Array Value) (P : List NetX) (L : Nat) (m : List NetV) (vs : Value) (s : List UInt8) (w : World) (hS : Blk w S 182 #[.slice (some ⟨g, 0, none⟩) P.length cap]) (hg : Blk w g 121 cur) (hP : RowHas encX P cur) (h0 : P ≠ []) (hl : P.length ≤ 1000000) (hat : ∀ x ∈ P, NetAt w x) (hset : SetOf L m P)
    (hs : BSl w vs s) (hA : addrB s = true) (hL : s.length = L) :
    Calls Tryz.prog 251 #[.pointer (some ⟨S, 0, none⟩), vs, .func (.func 253) #[] #[], .func (.func 254) #[] #[]] w (TellsV (m.any fun n => inN n.1 n.2 s) w) := by
  obtain ⟨d, rfl⟩ := lift_list (fun x => NetAt w x ∧ NetOk x.2 ∧ x.2.1.length = L) P (fun x hx => ⟨hat x hx, hset.ok x hx⟩)
  have h0' : d ≠ [] := fun e => h0 (by rw [e]; rfl)
  rw [List.length_map] at hl hS
  match d, h0' with
  | x :: r, h0' =>
    haveI : Inhabited (NetW w L) := ⟨x⟩
    have ha : Asc (cmpP (w := w) (L := L)) (x :: r) := List.pairwise_map.1 hset.asc
    have hn : (x :: r).Pairwise (fun a b : NetW w L => subP a b = false) := List.pairwise_map.1 hset.anti
    have h := netSearch_calls (w := w) (L := L) (x :: r) vs ⟨s, hL⟩ S g cap cur hS hg (rowHas_map (enc := encX) (f := fun x : NetW w L => x.val) hP) h0' hl ha hs hA
    rw [searched_eq netLam ⟨s, hL⟩ (x :: r) ha hn] at h
    have he := hset.any s hL
    rw [List.any_map] at he
    rw [← he]
    exact h
end Go.Proofs.YtblabjfjhlablaaGreatDoor
/- The walk of query over networks; the walks of checkConstraints over addresses (printed by gen/checks2.py inst106.py). -/
namespace Go.Proofs.YtblabjfjhlablaaGreatDoor
open Go.RowKit Go.Sort Nc Go.Maps
theorem any_filter {α : Type} (l : List α) (f q : α → Bool) (h : ∀ x ∈ l, q x = true → f x = true) : (l.filter f).any q = l.any q := by
  rw [Bool.eq_iff_iff, List.any_eq_true, List.any_eq_true]
  constructor
  · rintro ⟨x, hx, hq⟩
    exact ⟨x, (List.mem_filter.1 hx).1, hq⟩
  · rintro ⟨x, hx, hq⟩
    exact ⟨x, List.mem_filter.2 ⟨hx, h x hx hq⟩, hq⟩
theorem in_len4 {l : List NetV} {s : List UInt8} (h : s.length = 4) : (l.filter len4B).any (fun n => inN n.1 n.2 s) = l.any (fun n => inN n.1 n.2 s) :=
  any_filter _ _ _ fun n _ hq => by
    have := (inN_len _ _ _ hq).1
    unfold len4B
    rw [this, h]; rfl
theorem in_len16 {l : List NetV} {s : List UInt8} (h : s.length = 16) : (l.filter (fun n => !len4B n)).any (fun n => inN n.1 n.2 s) = l.any (fun n => inN n.1 n.2 s) :=
  any_filter _ _ _ fun n _ hq => by
    have := (inN_len _ _ _ hq).1
    unfold len4B
    rw [this, h]; rfl
theorem nilSet_query (D : Nat) (u4 u6 vs : Value) (s : List UInt8) (w : World) (hD : Blk w D 188 #[u4, u6]) (hs : BSl w vs s) (h : (s.length = 4 ∧ u4 = .pointer none) ∨ (s.length = 16 ∧ u6 = .pointer none)) (h4 : ∃ p, u4 = .pointer p) (h6 : ∃ p, u6 = .pointer p) :
    Calls Tryz.prog 252 #[.pointer (some ⟨D, 0, none⟩), vs] w (TellsV false w) := by
  obtain ⟨g, cap, cur, rfl, _⟩ := hs
  obtain ⟨p4, rfl⟩ := h4
  obtain ⟨p6, rfl⟩ := h6
  have c0 := hD.at_ 0 rfl
  have c1 := hD.at_ 1 rfl
  rcases h with ⟨hl, he⟩ | ⟨hl, he⟩
  · cases he
    rw [hl]
    clear hl
    go_enter Tryz.func252, Tryz.ntmps252
    go_wp2
    go_ret2
    exact ⟨_, rfl, Below.refl _ _⟩
  · cases he
    rw [hl]
    clear hl
    go_enter Tryz.func252, Tryz.ntmps252
    go_wp2
    go_ret2
    exact ⟨_, rfl, Below.refl _ _⟩
theorem someSet_query (D S : Nat) (u4 u6 vs : Value) (s : List UInt8) (b : Bool) (w : World) (hD : Blk w D 188 #[u4, u6]) (hs : BSl w vs s) (h : (s.length = 4 ∧ u4 = .pointer (some ⟨S, 0, none⟩)) ∨ (s.length = 16 ∧ u6 = .pointer (some ⟨S, 0, none⟩))) (h4 : ∃ p, u4 = .pointer p) (h6 : ∃ p, u6 = .pointer p)
    (hc : Calls Tryz.prog 251 #[.pointer (some ⟨S, 0, none⟩), vs, .func (.func 253) #[] #[], .func (.func 254) #[] #[]] w (TellsV b w)) :
    Calls Tryz.prog 252 #[.pointer (some ⟨D, 0, none⟩), vs] w (TellsV b w) := by
  have HC := Lib.hid hc
  obtain ⟨g, cap, cur, hvs, _⟩ := hs
  rw [hvs] at HC ⊢
  clear hc hvs
  obtain ⟨p4, rfl⟩ := h4
  obtain ⟨p6, rfl⟩ := h6
  have c0 := hD.at_ 0 rfl
  have c1 := hD.at_ 1 rfl
  rcases h with ⟨hl, he⟩ | ⟨hl, he⟩
  · cases he
    rw [hl] at HC ⊢
    clear hl
    go_enter Tryz.func252, Tryz.ntmps252
    go_wp2_with (fail)
    refine HC.out.mono ?_
    rintro e w1 ⟨v, rfl, hb⟩
    go_wp2
    go_ret2
    exact ⟨_, rfl, hb⟩
  · cases he
    rw [hl] at HC ⊢
    clear hl
    go_enter Tryz.func252, Tryz.ntmps252
    go_wp2_with (fail)
    refine HC.out.mono ?_
    rintro e w1 ⟨v, rfl, hb⟩
    go_wp2
    go_ret2
    exact ⟨_, rfl, hb⟩
theorem IsSet.ptr {w : World} {L : Nat} {m : List NetV} {u : Value} (h : IsSet w L m u) : ∃ p, u = .pointer p := by
  rcases h with ⟨_, h⟩ | ⟨S, _, _, _, _, h, _⟩
  · exact ⟨_, h⟩
  · exact ⟨_, h⟩
theorem ipQuery_calls (D : Nat) (u4 u6 vs : Value) (l : List NetV) (s : List UInt8) (w : World) (hD : Blk w D 188 #[u4, u6]) (h4 : IsSet w 4 (l.filter len4B) u4) (h6 : IsSet w 16 (l.filter (fun n => !len4B n)) u6) (hs : BSl w vs s) (ha : addrB s = true) :
    Calls Tryz.prog 252 #[.pointer (some ⟨D, 0, none⟩), vs] w (TellsV (l.any fun n => inN n.1 n.2 s) w) := by
  have p4 := h4.ptr
  have p6 := h6.ptr
  rcases addrB_len ha with hl | hl
  · rw [← in_len4 hl]
    rcases h4 with ⟨e, h⟩ | ⟨S, g, cap, cur, P, h, k1, k2, k3, k4, k5, k6, k7⟩
    · rw [e]
      exact nilSet_query D u4 u6 vs s w hD hs (.inl ⟨hl, h⟩) p4 p6
    · exact someSet_query D S u4 u6 vs s _ w hD hs (.inl ⟨hl, h⟩) p4 p6 (setSearch_calls S g cap cur P 4 _ vs s w k1 k2 k3 k4 k5 k6 k7 hs ha hl)
  · rw [← in_len16 hl]
    rcases h6 with ⟨e, h⟩ | ⟨S, g, cap, cur, P, h, k1, k2, k3, k4, k5, k6, k7⟩
    · rw [e]
      exact nilSet_query D u4 u6 vs s w hD hs (.inr ⟨hl, h⟩) p4 p6
    · exact someSet_query D S u4 u6 vs s _ w hD hs (.inr ⟨hl, h⟩) p4 p6 (setSearch_calls S g cap cur P 16 _ vs s w k1 k2 k3 k4 k5 k6 k7 hs ha hl)
/-- What is told of an address. -/
def askNet (l : List NetV) (a : List UInt8) : Option Bool := if l = [] then none else some (l.any fun n => inN n.1 n.2 a)
theorem IsIp.asked {w : World} {l : List NetV} {v : Value} (h : IsIp l w v) (vs : Value) (s : List UInt8) (hs : BSl w vs s) (ha : addrB s = true) : Asked 186 252 w v vs (askNet l s) := by
  rcases h with ⟨rfl, rfl⟩ | ⟨D, u4, u6, rfl, hne, _, hD, h4, h6⟩
  · exact .inl ⟨rfl, by simp [askNet]⟩
  · refine .inr ⟨D, _, rfl, by unfold askNet; rw [if_neg hne], fun W hW => ?_⟩
    have hc : Carry ipTypes w W := .below hW
    exact ipQuery_calls D u4 u6 vs l s W (hD.later hW) (h4.carry hc (by decide) (by decide) (by decide) (by decide)) (h6.carry hc (by decide) (by decide) (by decide) (by decide)) (hs.later hW) ha
theorem meth252 (a : Addr) (w : World) : (method 424 186 (.pointer (some a)) "loop.example/pub-g03134/pub/nameconstraints.query").run Tryz.prog w = .ok (252, .pointer (some a)) w := by kernel_rfl
set_option maxRecDepth 100000 in
set_option maxHeartbeats 1000000 in
theorem check106_nil_nil (ty : ByteArray) (A : Option Addr) (n c : Nat) (w : World) :
    Calls Tryz.prog 106 #[.agg #[.string ty, .nilIface, .nilIface], .slice A n c, .slice A n c] w (Says false w) := by
  have hm := meth252
  have hb0 : Below w.heap.size w (w.alloc (.cells #[Value.string ty, Value.nilIface, Value.nilIface] 95)) := (Below.refl w.heap.size w).alloc (Nat.le_refl _) (.cells #[Value.string ty, Value.nilIface, Value.nilIface] 95)
  have hB0 : Blk (w.alloc (.cells #[Value.string ty, Value.nilIface, Value.nilIface] 95)) w.heap.size 95 #[Value.string ty, Value.nilIface, Value.nilIface] := Blk.new w 95 #[Value.string ty, Value.nilIface, Value.nilIface]
  go_enter Tryz.func106, Tryz.ntmps106
  go_wp2
  go_ret
  exact ⟨_, rfl, hb0, .inl ⟨rfl, rfl⟩⟩
set_option maxRecDepth 100000 in
set_option maxHeartbeats 1000000 in
theorem check106_nil_yes (ty : ByteArray) (A : Option Addr) (n c : Nat) (w : World) (E : Nat) (hx : ∀ W, Below w.heap.size w W → Calls Tryz.prog 252 #[.pointer (some ⟨E, 0, none⟩), (.slice A n c)] W (TellsV true W)) (hty : ty.size ≤ 100) :
    Calls Tryz.prog 106 #[.agg #[.string ty, .nilIface, (.iface 186 (.pointer (some ⟨E, 0, none⟩)))], .slice A n c, .slice A n c] w (Says true w) := by
  have hm := meth252
  have hb0 : Below w.heap.size w (w.alloc (.cells #[Value.string ty, Value.nilIface, (Value.iface 186 (.pointer (some ⟨E, 0, none⟩)))] 95)) := (Below.refl w.heap.size w).alloc (Nat.le_refl _) (.cells #[Value.string ty, Value.nilIface, (Value.iface 186 (.pointer (some ⟨E, 0, none⟩)))] 95)
  have hB0 : Blk (w.alloc (.cells #[Value.string ty, Value.nilIface, (Value.iface 186 (.pointer (some ⟨E, 0, none⟩)))] 95)) w.heap.size 95 #[Value.string ty, Value.nilIface, (Value.iface 186 (.pointer (some ⟨E, 0, none⟩)))] := Blk.new w 95 #[Value.string ty, Value.nilIface, (Value.iface 186 (.pointer (some ⟨E, 0, none⟩)))]
  have HX := Lib.hid hx
  clear hx
  go_enter Tryz.func106, Tryz.ntmps106
  go_wp2_with (fail)
  refine (HX.out _ hb0).mono ?_
  rintro e w1 ⟨v1, rfl, hc1⟩
  have hb1 := hb0.trans (hc1.mono hb0.size)
  have hB1 := hB0.later hc1
  clear hc1 hB0 hb0
  have c0 := hB1.at_ 0 rfl
  have c1 := hB1.at_ 1 rfl
  have c2 := hB1.at_ 2 rfl
  go_wp2_with (first | (go_at_call 108; refine (errNew_calls _ _).mono ?_; rintro e w9 ⟨rfl, rfl⟩))
  go_ret
  exact ⟨_, rfl, hb1.alloc hb1.size _, .inr ⟨rfl, ty, hty, .inr ⟨_, rfl, Blk.new _ _ _⟩⟩⟩
set_option maxRecDepth 100000 in
set_option maxHeartbeats 1000000 in
theorem check106_nil_no (ty : ByteArray) (A : Option Addr) (n c : Nat) (w : World) (E : Nat) (hx : ∀ W, Below w.heap.size w W → Calls Tryz.prog 252 #[.pointer (some ⟨E, 0, none⟩), (.slice A n c)] W (TellsV false W)) :
    Calls Tryz.prog 106 #[.agg #[.string ty, .nilIface, (.iface 186 (.pointer (some ⟨E, 0, none⟩)))], .slice A n c, .slice A n c] w (Says false w) := by
  have hm := meth252
  have hb0 : Below w.heap.size w (w.alloc (.cells #[Value.string ty, Value.nilIface, (Value.iface 186 (.pointer (some ⟨E, 0, none⟩)))] 95)) := (Below.refl w.heap.size w).alloc (Nat.le_refl _) (.cells #[Value.string ty, Value.nilIface, (Value.iface 186 (.pointer (some ⟨E, 0, none⟩)))] 95)
  have hB0 : Blk (w.alloc (.cells #[Value.string ty, Value.nilIface, (Value.iface 186 (.pointer (some ⟨E, 0, none⟩)))] 95)) w.heap.size 95 #[Value.string ty, Value.nilIface, (Value.iface 186 (.pointer (some ⟨E, 0, none⟩)))] := Blk.new w 95 #[Value.string ty, Value.nilIface, (Value.iface 186 (.pointer (some ⟨E, 0, none⟩)))]
  have HX := Lib.hid hx
  clear hx
  go_enter Tryz.func106, Tryz.ntmps106
  go_wp2_with (fail)
  refine (HX.out _ hb0).mono ?_
  rintro e w1 ⟨v1, rfl, hc1⟩
  have hb1 := hb0.trans (hc1.mono hb0.size)
  have hB1 := hB0.later hc1
  clear hc1 hB0 hb0
  have c0 := hB1.at_ 0 rfl
  have c1 := hB1.at_ 1 rfl
  have c2 := hB1.at_ 2 rfl
  go_wp2
  go_ret
  exact ⟨_, rfl, hb1, .inl ⟨rfl, rfl⟩⟩
set_option maxRecDepth 100000 in
set_option maxHeartbeats 1000000 in
theorem check106_yes_nil (ty : ByteArray) (A : Option Addr) (n c : Nat) (w : World) (D : Nat) (hp : ∀ W, Below w.heap.size w W → Calls Tryz.prog 252 #[.pointer (some ⟨D, 0, none⟩), (.slice A n c)] W (TellsV true W)) :
    Calls Tryz.prog 106 #[.agg #[.string ty, (.iface 186 (.pointer (some ⟨D, 0, none⟩))), .nilIface], .slice A n c, .slice A n c] w (Says false w) := by
  have hm := meth252
  have hb0 : Below w.heap.size w (w.alloc (.cells #[Value.string ty, (Value.iface 186 (.pointer (some ⟨D, 0, none⟩))), Value.nilIface] 95)) := (Below.refl w.heap.size w).alloc (Nat.le_refl _) (.cells #[Value.string ty, (Value.iface 186 (.pointer (some ⟨D, 0, none⟩))), Value.nilIface] 95)
  have hB0 : Blk (w.alloc (.cells #[Value.string ty, (Value.iface 186 (.pointer (some ⟨D, 0, none⟩))), Value.nilIface] 95)) w.heap.size 95 #[Value.string ty, (Value.iface 186 (.pointer (some ⟨D, 0, none⟩))), Value.nilIface] := Blk.new w 95 #[Value.string ty, (Value.iface 186 (.pointer (some ⟨D, 0, none⟩))), Value.nilIface]
  have HP := Lib.hid hp
  clear hp
  go_enter Tryz.func106, Tryz.ntmps106
  go_wp2_with (fail)
  refine (HP.out _ hb0).mono ?_
  rintro e w1 ⟨v1, rfl, hc1⟩
  have hb1 := hb0.trans (hc1.mono hb0.size)
  have hB1 := hB0.later hc1
  clear hc1 hB0 hb0
  have c0 := hB1.at_ 0 rfl
  have c1 := hB1.at_ 1 rfl
  have c2 := hB1.at_ 2 rfl
  go_wp2
  go_ret
  exact ⟨_, rfl, hb1, .inl ⟨rfl, rfl⟩⟩
set_option maxRecDepth 100000 in
set_option maxHeartbeats 1000000 in
theorem check106_yes_yes (ty : ByteArray) (A : Option Addr) (n c : Nat) (w : World) (D : Nat) (hp : ∀ W, Below w.heap.size w W → Calls Tryz.prog 252 #[.pointer (some ⟨D, 0, none⟩), (.slice A n c)] W (TellsV true W)) (E : Nat) (hx : ∀ W, Below w.heap.size w W → Calls Tryz.prog 252 #[.pointer (some ⟨E, 0, none⟩), (.slice A n c)] W (TellsV true W)) (hty : ty.size ≤ 100) :
    Calls Tryz.prog 106 #[.agg #[.string ty, (.iface 186 (.pointer (some ⟨D, 0, none⟩))), (.iface 186 (.pointer (some ⟨E, 0, none⟩)))], .slice A n c, .slice A n c] w (Says true w) := by
  have hm := meth252
  have hb0 : Below w.heap.size w (w.alloc (.cells #[Value.string ty, (Value.iface 186 (.pointer (some ⟨D, 0, none⟩))), (Value.iface 186 (.pointer (some ⟨E, 0, none⟩)))] 95)) := (Below.refl w.heap.size w).alloc (Nat.le_refl _) (.cells #[Value.string ty, (Value.iface 186 (.pointer (some ⟨D, 0, none⟩))), (Value.iface 186 (.pointer (some ⟨E, 0, none⟩)))] 95)
  have hB0 : Blk (w.alloc (.cells #[Value.string ty, (Value.iface 186 (.pointer (some ⟨D, 0, none⟩))), (Value.iface 186 (.pointer (some ⟨E, 0, none⟩)))] 95)) w.heap.size 95 #[Value.string ty, (Value.iface 186 (.pointer (some ⟨D, 0, none⟩))), (Value.iface 186 (.pointer (some ⟨E, 0, none⟩)))] := Blk.new w 95 #[Value.string ty, (Value.iface 186 (.pointer (some ⟨D, 0, none⟩))), (Value.iface 186 (.pointer (some ⟨E, 0, none⟩)))]
  have HP := Lib.hid hp
  clear hp
  have HX := Lib.hid hx
  clear hx
  go_enter Tryz.func106, Tryz.ntmps106
  go_wp2_with (fail)
  refine (HP.out _ hb0).mono ?_
  rintro e w1 ⟨v1, rfl, hc1⟩
  have hb1 := hb0.trans (hc1.mono hb0.size)
  have hB1 := hB0.later hc1
  clear hc1 hB0 hb0
  have c0 := hB1.at_ 0 rfl
  have c1 := hB1.at_ 1 rfl
  have c2 := hB1.at_ 2 rfl
  go_wp2_with (fail)
  refine (HX.out _ hb1).mono ?_
  rintro e w2 ⟨v2, rfl, hc2⟩
  have hb2 := hb1.trans (hc2.mono hb1.size)
  have hB2 := hB1.later hc2
  clear c0 c1 c2
  clear hc2 hB1 hb1
  have c0 := hB2.at_ 0 rfl
  have c1 := hB2.at_ 1 rfl
  have c2 := hB2.at_ 2 rfl
  go_wp2_with (first | (go_at_call 108; refine (errNew_calls _ _).mono ?_; rintro e w9 ⟨rfl, rfl⟩))
  go_ret
  exact ⟨_, rfl, hb2.alloc hb2.size _, .inr ⟨rfl, ty, hty, .inr ⟨_, rfl, Blk.new _ _ _⟩⟩⟩
set_option maxRecDepth 100000 in
set_option maxHeartbeats 1000000 in
theorem check106_yes_no (ty : ByteArray) (A : Option Addr) (n c : Nat) (w : World) (D : Nat) (hp : ∀ W, Below w.heap.size w W → Calls Tryz.prog 252 #[.pointer (some ⟨D, 0, none⟩), (.slice A n c)] W (TellsV true W)) (E : Nat) (hx : ∀ W, Below w.heap.size w W → Calls Tryz.prog 252 #[.pointer (some ⟨E, 0, none⟩), (.slice A n c)] W (TellsV false W)) :
    Calls Tryz.prog 106 #[.agg #[.string ty, (.iface 186 (.pointer (some ⟨D, 0, none⟩))), (.iface 186 (.pointer (some ⟨E, 0, none⟩)))], .slice A n c, .slice A n c] w (Says false w) := by
  have hm := meth252
  have hb0 : Below w.heap.size w (w.alloc (.cells #[Value.string ty, (Value.iface 186 (.pointer (some ⟨D, 0, none⟩))), (Value.iface 186 (.pointer (some ⟨E, 0, none⟩)))] 95)) := (Below.refl w.heap.size w).alloc (Nat.le_refl _) (.cells #[Value.string ty, (Value.iface 186 (.pointer (some ⟨D, 0, none⟩))), (Value.iface 186 (.pointer (some ⟨E, 0, none⟩)))] 95)
  have hB0 : Blk (w.alloc (.cells #[Value.string ty, (Value.iface 186 (.pointer (some ⟨D, 0, none⟩))), (Value.iface 186 (.pointer (some ⟨E, 0, none⟩)))] 95)) w.heap.size 95 #[Value.string ty, (Value.iface 186 (.pointer (some ⟨D, 0, none⟩))), (Value.iface 186 (.pointer (some ⟨E, 0, none⟩)))] := Blk.new w 95 #[Value.string ty, (Value.iface 186 (.pointer (some ⟨D, 0, none⟩))), (Value.iface 186 (.pointer (some ⟨E, 0, none⟩)))]
  have HP := Lib.hid hp
  clear hp
  have HX := Lib.hid hx
  clear hx
  go_enter Tryz.func106, Tryz.ntmps106
  go_wp2_with (fail)
  refine (HP.out _ hb0).mono ?_
  rintro e w1 ⟨v1, rfl, hc1⟩
  have hb1 := hb0.trans (hc1.mono hb0.size)
  have hB1 := hB0.later hc1
  clear hc1 hB0 hb0
  have c0 := hB1.at_ 0 rfl
  have c1 := hB1.at_ 1 rfl
  have c2 := hB1.at_ 2 rfl
  go_wp2_with (fail)
  refine (HX.out _ hb1).mono ?_
  rintro e w2 ⟨v2, rfl, hc2⟩
  have hb2 := hb1.trans (hc2.mono hb1.size)
  have hB2 := hB1.later hc2
  clear c0 c1 c2
  clear hc2 hB1 hb1
  have c0 := hB2.at_ 0 rfl
  have c1 := hB2.at_ 1 rfl
  have c2 := hB2.at_ 2 rfl
  go_wp2
  go_ret
  exact ⟨_, rfl, hb2, .inl ⟨rfl, rfl⟩⟩
set_option maxRecDepth 100000 in
set_option maxHeartbeats 1000000 in
theorem check106_no_nil (ty : ByteArray) (A : Option Addr) (n c : Nat) (w : World) (D : Nat) (hp : ∀ W, Below w.heap.size w W → Calls Tryz.prog 252 #[.pointer (some ⟨D, 0, none⟩), (.slice A n c)] W (TellsV false W)) (vx : Value) (hty : ty.size ≤ 100) :
    Calls Tryz.prog 106 #[.agg #[.string ty, (.iface 186 (.pointer (some ⟨D, 0, none⟩))), vx], .slice A n c, .slice A n c] w (Says true w) := by
  have hm := meth252
  have hb0 : Below w.heap.size w (w.alloc (.cells #[Value.string ty, (Value.iface 186 (.pointer (some ⟨D, 0, none⟩))), vx] 95)) := (Below.refl w.heap.size w).alloc (Nat.le_refl _) (.cells #[Value.string ty, (Value.iface 186 (.pointer (some ⟨D, 0, none⟩))), vx] 95)
  have hB0 : Blk (w.alloc (.cells #[Value.string ty, (Value.iface 186 (.pointer (some ⟨D, 0, none⟩))), vx] 95)) w.heap.size 95 #[Value.string ty, (Value.iface 186 (.pointer (some ⟨D, 0, none⟩))), vx] := Blk.new w 95 #[Value.string ty, (Value.iface 186 (.pointer (some ⟨D, 0, none⟩))), vx]
  have HP := Lib.hid hp
  clear hp
  go_enter Tryz.func106, Tryz.ntmps106
  go_wp2_with (fail)
  refine (HP.out _ hb0).mono ?_
  rintro e w1 ⟨v1, rfl, hc1⟩
  have hb1 := hb0.trans (hc1.mono hb0.size)
  have hB1 := hB0.later hc1
  clear hc1 hB0 hb0
  have c0 := hB1.at_ 0 rfl
  have c1 := hB1.at_ 1 rfl
  have c2 := hB1.at_ 2 rfl
  go_wp2_with (first | (go_at_call 108; refine (errNew_calls _ _).mono ?_; rintro e w9 ⟨rfl, rfl⟩))
  go_ret
  exact ⟨_, rfl, hb1.alloc hb1.size _, .inr ⟨rfl, ty, hty, .inl ⟨_, rfl, Blk.new _ _ _⟩⟩⟩
/-- checkConstraints (106): whether a name is refused. -/
theorem check106_calls (ty : ByteArray) (A : Option Addr) (n c : Nat) (vp vx : Value) (p x : Option Bool) (w : World) (hp : Asked 186 252 w vp (.slice A n c) p) (hx : Asked 186 252 w vx (.slice A n c) x) (hty : ty.size ≤ 100) :
    Calls Tryz.prog 106 #[.agg #[.string ty, vp, vx], .slice A n c, .slice A n c] w (Says (ruledOut p x) w) := by
  rcases hp with ⟨rfl, rfl⟩ | ⟨D, bp, rfl, rfl, hp⟩
  · rcases hx with ⟨rfl, rfl⟩ | ⟨E, bx, rfl, rfl, hx⟩
    · exact check106_nil_nil ty A n c w
    · cases bx
      · exact check106_nil_no ty A n c w E hx
      · exact check106_nil_yes ty A n c w E hx hty
  · cases bp
    · exact check106_no_nil ty A n c w D hp vx hty
    · rcases hx with ⟨rfl, rfl⟩ | ⟨E, bx, rfl, rfl, hx⟩
      · exact check106_yes_nil ty A n c w D hp
      · cases bx
        · exact check106_yes_no ty A n c w D hp E hx
        · exact check106_yes_yes ty A n c w D hp E hx hty
end Go.Proofs.YtblabjfjhlablaaGreatDoor
/- The walk of newIPNetConstraints. -/
namespace Go.Proofs.YtblabjfjhlablaaGreatDoor
open Go.RowKit Go.Sort Nc
theorem netPtr_info : (Tryz.prog.info? 121).map (fun i => (i.zero, i.size, i.bytes)) = some (some (.pointer none), 1, 8) := by kernel_rfl
theorem own_kept {w w' : World} {base n size : Nat} {e : TypeId} {v : Value} {xs : List Value} {row : Option Nat} (h : w.ownsRow base e size v n xs) (hg : w.grownBy w' row) (hne : ∀ g, v.ownBlock = some g → some g ≠ row) : w'.ownsRow base e size v n xs := by
  obtain ⟨h1, h2⟩ := h
  refine ⟨h1, ?_⟩
  rcases h2 with h2 | ⟨g, cap, cur, rfl, h4, hh, hr⟩
  · exact .inl h2
  · have hlt : g < w.heap.size := by
      rcases Nat.lt_or_ge g w.heap.size with hlt | hge
      · exact hlt
      · rw [Array.getElem?_eq_none hge] at hh; cases hh
    exact .inr ⟨g, cap, cur, rfl, h4, (hg.block g hlt (hne g rfl)).trans hh, hr⟩
/-- Two rows have no block in common. -/
def Apart (u v : Value) : Prop := ∀ g, u.ownBlock = some g → v.ownBlock ≠ some g
theorem Apart.symm {u v : Value} (h : Apart u v) : Apart v u := fun g h1 h2 => h g h2 h1
/-- A set of which the blocks are known. -/
def IsSetAt (w : World) (L : Nat) (m : List NetV) (S g : Nat) : Prop :=
  ∃ (cap : Nat) (cur : Array Value) (P : List NetX), Blk w S 182 #[.slice (some ⟨g, 0, none⟩) P.length cap] ∧ Blk w g 121 cur ∧ RowHas encX P cur ∧ P ≠ [] ∧ P.length ≤ 1000000 ∧ (∀ x ∈ P, NetAt w x) ∧ SetOf L m P
theorem IsSetAt.set {w : World} {L : Nat} {m : List NetV} {S g : Nat} (h : IsSetAt w L m S g) : IsSet w L m (.pointer (some ⟨S, 0, none⟩)) := by
  obtain ⟨cap, cur, P, h⟩ := h
  exact .inr ⟨S, g, cap, cur, P, rfl, h⟩
theorem IsSetAt.later {w w' : World} {L : Nat} {m : List NetV} {S g : Nat} (h : IsSetAt w L m S g) (hb : Below w.heap.size w w') : IsSetAt w' L m S g := by
  obtain ⟨cap, cur, P, h1, h2, h3, h4, h5, h6, h7⟩ := h
  exact ⟨cap, cur, P, h1.later hb, h2.later hb, h3, h4, h5, fun x hx => (h6 x hx).later hb, h7⟩
theorem IsSetAt.but2 {w w' : World} {L : Nat} {m : List NetV} {S g S' g' : Nat} (h : IsSetAt w L m S g) (hb : But2 S' g' w w') (h1 : S ≠ S') (h2 : S ≠ g') (h3 : g ≠ S') (h4 : g ≠ g') (hc : Carry [5, 177] w w') : IsSetAt w' L m S g := by
  obtain ⟨cap, cur, P, k1, k2, k3, k4, k5, k6, k7⟩ := h
  exact ⟨cap, cur, P, hb.blk k1 h1 h2, hb.blk k2 h3 h4, k3, k4, k5, fun x hx => (k6 x hx).carry hc (by simp) (by simp), k7⟩
/-- sortAndPrune makes a set. -/
theorem makeSet_calls (P : List NetX) (L S g cap : Nat) (cur : Array Value) (w : World) (hS : Blk w S 182 #[.slice (some ⟨g, 0, none⟩) P.length cap]) (hg : Blk w g 121 cur) (hc : RowHas encX P cur) (h0 : P ≠ []) (hl : P.length ≤ 1000000) (hcap : P.length ≤ cap) (hat : ∀ x ∈ P, NetAt w x) (hok : ∀ x ∈ P, NetOk x.2 ∧ x.2.1.length = L) :
    Calls Tryz.prog 127 #[.pointer (some ⟨S, 0, none⟩), .func (.func 128) #[] #[], .func (.func 129) #[] #[]] w fun e w' => e = .returned (.tuple #[]) ∧ But2 S g w w' ∧ IsSetAt w' L (P.map (·.2)) S g ∧ Carry [5, 177] w w' := by
  obtain ⟨d, rfl⟩ := lift_list (fun x => NetAt w x ∧ NetOk x.2 ∧ x.2.1.length = L) P (fun x hx => ⟨hat x hx, hok x hx⟩)
  have h0' : d ≠ [] := fun e => h0 (by rw [e]; rfl)
  rw [List.length_map] at hl hcap hS
  refine (netSort_calls (w := w) (L := L) d S g cap cur hS hg (rowHas_map (enc := encX) (f := fun x : NetW w L => x.val) hc) h0' hl hcap).mono ?_
  rintro e w' ⟨rfl, srt, cur', hp, ha, hS', hg', hrow, hle, hb⟩
  have hcar : Carry [5, 177] w w' := Carry.but2 hb hS hg (by decide) (by decide)
  refine ⟨rfl, hb, ⟨cap, cur', (prune subP srt).map (·.val), ?_, hg', ?_, ?_, ?_, ?_, ?_⟩, hcar⟩
  · rw [List.length_map]; exact hS'
  · refine ⟨by rw [List.length_map]; exact hrow.1, fun j x hx => ?_⟩
    rw [List.getElem?_map, Option.map_eq_some_iff] at hx
    obtain ⟨y, hy, rfl⟩ := hx
    exact hrow.2 j y hy
  · intro e
    have e := List.map_eq_nil_iff.1 e
    have hlen := hp.length_eq
    cases srt with
    | nil => simp at hlen; exact h0' (List.eq_nil_of_length_eq_zero hlen.symm)
    | cons x xs => simp [prune] at e
  · rw [List.length_map]
    have := prune_length subP srt
    have := hp.length_eq
    omega
  · intro x hx
    obtain ⟨y, _, rfl⟩ := List.mem_map.1 hx
    exact y.property.1.carry hcar (by simp) (by simp)
  · rw [List.map_map]
    exact setOf_prune srt d hp ha
def f4X (m : List NetX) : List NetX := m.filter (fun x => len4B x.2)
def f6X (m : List NetX) : List NetX := m.filter (fun x => !len4B x.2)
theorem f4X_map (m : List NetX) : (f4X m).map (·.2) = (m.map (·.2)).filter len4B := by
  unfold f4X
  rw [List.filter_map]; rfl
theorem f6X_map (m : List NetX) : (f6X m).map (·.2) = (m.map (·.2)).filter (fun n => !len4B n) := by
  unfold f6X
  rw [List.filter_map]; rfl
theorem f4X_snoc (m : List NetX) (x : NetX) : f4X (m ++ [x]) = if len4B x.2 then f4X m ++ [x] else f4X m := by
  unfold f4X
  rw [List.filter_append]
  cases h : len4B x.2 <;> simp [h]
theorem f6X_snoc (m : List NetX) (x : NetX) : f6X (m ++ [x]) = if len4B x.2 then f6X m else f6X m ++ [x] := by
  unfold f6X
  rw [List.filter_append]
  cases h : len4B x.2 <;> simp [h]
/-- A row of pointers that is not empty, opened. -/
theorem own_open {w : World} {base n : Nat} {v : Value} {P : List NetX} (h : w.ownsRow base 121 1 v n (P.map encX)) (hP : P ≠ []) : ∃ (g cap : Nat) (cur : Array Value), v = .slice (some ⟨g, 0, none⟩) P.length cap ∧ Blk w g 121 cur ∧ P.length ≤ cap ∧ RowHas encX P cur ∧ base ≤ g := by
  obtain ⟨h1, h2⟩ := h
  rw [List.length_map, Nat.mul_one] at h1
  rcases h2 with ⟨_, h⟩ | ⟨g, cap, cur, rfl, h3, hh, hn, hm, hs, ht⟩
  · rw [h] at h1
    exact absurd (List.eq_nil_of_length_eq_zero h1) hP
  · refine ⟨g, cap, cur, by rw [h1], hh, by omega, ⟨by omega, fun j x hx => ?_⟩, h3⟩
    have hj : j < P.length := (List.getElem?_eq_some_iff.1 hx).1
    have hk : (P.map encX)[j]? = some (encX x) := by simp [hx]
    rw [← ht, List.getElem?_take, if_pos (by omega)] at hk
    simpa using hk
theorem own_nil {w : World} {base n : Nat} {v : Value} (h : w.ownsRow base 121 1 v n ([] : List Value)) : ∃ A c, v = .slice A 0 c := by
  obtain ⟨h1, h2⟩ := h
  have h1 : n = 0 := by simpa using h1.symm
  subst h1
  rcases h2 with ⟨rfl, _⟩ | ⟨g, cap, cur, rfl, _⟩
  · exact ⟨_, _, rfl⟩
  · exact ⟨_, _, rfl⟩
end Go.Proofs.YtblabjfjhlablaaGreatDoor
/- The walk of newIPNetConstraints, the whole. -/
namespace Go.Proofs.YtblabjfjhlablaaGreatDoor
open Go.RowKit Go.Sort Nc
/-- Behind the loop: two rows, one of which may be empty; what is made of them. -/
def TwoRows (w0 w : World) (l : List NetX) (o4 o6 : Value) : Prop :=
  ∃ n4 n6 : Nat, n4 ≤ l.length ∧ n6 ≤ l.length ∧ Below w0.heap.size w0 w ∧ w.ownsRow w0.heap.size 121 1 o4 n4 ((f4X l).map encX) ∧ w.ownsRow w0.heap.size 121 1 o6 n6 ((f6X l).map encX) ∧ Apart o4 o6
theorem TwoRows.start (w : World) : TwoRows w w [] (.slice none 0 0) (.slice none 0 0) := ⟨0, 0, Nat.le_refl _, Nat.le_refl _, Below.refl _ _, nil_own0 _ _ _, nil_own0 _ _ _, fun g h => by simp [Value.ownBlock] at h⟩
theorem TwoRows.later {w0 w w' : World} {l : List NetX} {o4 o6 : Value} (h : TwoRows w0 w l o4 o6) (hb : Below w.heap.size w w') : TwoRows w0 w' l o4 o6 := by
  obtain ⟨n4, n6, h1, h2, h3, h4, h5, h6⟩ := h
  exact ⟨n4, n6, h1, h2, h3.trans (hb.mono h3.size), own_later h4 hb, own_later h5 hb, h6⟩
theorem TwoRows.push4 {w0 w w' : World} {l : List NetX} {o4 o6 v : Value} {x : NetX} {n4 n6 : Nat} (h1 : n4 ≤ l.length) (h2 : n6 ≤ l.length) (h3 : Below w0.heap.size w0 w) (h4 : w.ownsRow w0.heap.size 121 1 o4 n4 ((f4X l).map encX)) (h5 : w.ownsRow w0.heap.size 121 1 o6 n6 ((f6X l).map encX)) (h6 : Apart o4 o6)
    (hx : len4B x.2 = true) (k1 : w'.ownsRow w0.heap.size 121 1 v (n4 + 1) ((f4X l).map encX ++ [encX x])) (k2 : w.grownBy w' o4.ownBlock) (k3 : v.ownBlock = o4.ownBlock ∨ v.ownBlock = some w.heap.size) : TwoRows w0 w' (l ++ [x]) v o6 := by
  refine ⟨n4 + 1, n6, by simp; omega, by simp; omega, h3.grown k2 h3.size (fun q hq => (h4.lt q hq).1), ?_, ?_, ?_⟩
  · rw [f4X_snoc, if_pos hx, List.map_append]; exact k1
  · rw [f6X_snoc, if_pos hx]
    exact own_kept h5 k2 (fun g hg e => h6 g e.symm hg)
  · intro g hg hg6
    rcases k3 with e | e
    · exact h6 g (e ▸ hg) hg6
    · rw [e] at hg
      cases hg
      have := (h5.lt _ hg6).2
      omega
theorem TwoRows.push6 {w0 w w' : World} {l : List NetX} {o4 o6 v : Value} {x : NetX} {n4 n6 : Nat} (h1 : n4 ≤ l.length) (h2 : n6 ≤ l.length) (h3 : Below w0.heap.size w0 w) (h4 : w.ownsRow w0.heap.size 121 1 o4 n4 ((f4X l).map encX)) (h5 : w.ownsRow w0.heap.size 121 1 o6 n6 ((f6X l).map encX)) (h6 : Apart o4 o6)
    (hx : len4B x.2 = false) (k1 : w'.ownsRow w0.heap.size 121 1 v (n6 + 1) ((f6X l).map encX ++ [encX x])) (k2 : w.grownBy w' o6.ownBlock) (k3 : v.ownBlock = o6.ownBlock ∨ v.ownBlock = some w.heap.size) : TwoRows w0 w' (l ++ [x]) o4 v := by
  refine ⟨n4, n6 + 1, by simp; omega, by simp; omega, h3.grown k2 h3.size (fun q hq => (h5.lt q hq).1), ?_, ?_, ?_⟩
  · rw [f4X_snoc, if_neg (by rw [hx]; decide)]
    exact own_kept h4 k2 (fun g hg e => h6 g hg e.symm)
  · rw [f6X_snoc, if_neg (by rw [hx]; decide), List.map_append]; exact k1
  · intro g hg hg6
    rcases k3 with e | e
    · exact h6 g hg (e ▸ hg6)
    · rw [e] at hg6
      cases hg6
      have := (h4.lt _ hg).2
      omega
set_option maxRecDepth 100000 in
set_option maxHeartbeats 2000000 in
theorem newIP_some (l : List NetX) (v : Value) (w : World) (hv : SRow w 121 v (l.map encX)) (hat : ∀ x ∈ l, NetAt w x) (hok : ∀ x ∈ l, NetOk x.2) (h0 : l ≠ []) (hl : l.length ≤ 1000000) :
    Calls Tryz.prog 88 #[v] w (Makes (fun W u => IsIp (l.map (·.2)) W u) w) := by
  obtain ⟨i0, hi0, hz0, hz1, hz2⟩ := info_parts netPtr_info
  obtain ⟨g, cap, cur, rfl, hg, _, _, _, hc⟩ := hv.more (fun e => h0 (List.map_eq_nil_iff.1 e))
  rw [List.length_map]
  have hn : 0 < l.length := List.length_pos_iff.2 h0
  have hlen : ((l.length : Int) == 0) = false := ib_ne (by omega)
  have HC := Lib.hid hc
  have HAT := Lib.hid hat
  have HOK := Lib.hid hok
  have hnil := nil80_ne
  have HT0 := Lib.hid (TwoRows.start w)
  clear hc hat hok
  go_enter Tryz.func88, Tryz.ntmps88
  go_wp2
  go_loopw [3, 4, 15] (fun o4 o6 i wr => ∃ k : Nat, i = .int .i64 k ∧ k ≤ l.length ∧ Below w.heap.size w wr ∧ Hid (TwoRows w wr (l.take k) o4 o6)) (fun _ _ i _ => l.length - (intOf i).toNat)
  case atStart => exact ⟨0, rfl, Nat.zero_le _, Below.refl _ _, HT0.out⟩
  case round =>
    obtain ⟨k, rfl, hk, hbr, htr⟩ := hrel
    clear HT0
    by_cases hlt : k < l.length
    · have cx := (hg.later hbr).at_ k (HC.out k (encX l[k]) (by simp [hlt]))
      have hx := (HAT.out _ (List.getElem_mem hlt)).later hbr
      have ox := HOK.out _ (List.getElem_mem hlt)
      have htake : l.take (k + 1) = l.take k ++ [l[k]] := List.take_succ_eq_append_getElem hlt
      have HTK := Lib.hid htake
      clear htake
      generalize l[k] = x at *
      obtain ⟨N, A, M⟩ := x
      obtain ⟨va, vm, hN, h1, h2⟩ := hx
      simp only at h1 h2
      have ho1 := ox.len
      have ho2 := addrB_len ox.addr
      have ho3 := ox.msk
      simp only at ho1 ho2 ho3
      have hM := fun (W : World) (hW : Below wr.heap.size wr W) => mask_calls va vm A M W (h1.later hW) (h2.later hW) ho1 ho2
      rw [zip_masked A M ho3] at hM
      have hE := fun (u : Value) (W : World) (hW : Below wr.heap.size wr W) (hu : BSl W u A) => equal_calls u va A A W hu (h1.later hW) rfl
      rw [beq_self_eq_true] at hE
      have HM := Lib.hid hM
      have HE := Lib.hid hE
      have c0 := hN.at_ 0 rfl
      have c1 := hN.at_ 1 rfl
      obtain ⟨gA, cA, curA, rfl, _⟩ := h1
      obtain ⟨gM, cM, curM, rfl, _⟩ := h2
      unfold encX at cx
      have HFR := Lib.hid (show Below wr.heap.size wr wr.drew from (Below.refl _ _).drew)
      clear hM hE ho1 ho3 ox
      go_wp2
      go_region_held3 (fun W => W.cell? ⟨N, 0, none⟩ = some (.slice (some ⟨gA, 0, none⟩) A.length cA) ∧ W.cell? ⟨N, 1, none⟩ = some (.slice (some ⟨gM, 0, none⟩) M.length cM))
        (first | exact ⟨c0, c1⟩ | exact ⟨cell_keep fq c0, cell_keep fq c1⟩)
        ((go_at_call 125; (with_reducible refine (HM.out _ HFR.out).mono ?_); rintro x u1 ⟨v7, rfl, q7, q1⟩; have fq := HFR.out.trans q1))
      have hEu := HE.out v7 u1 fq q7
      obtain ⟨g7, c7, hv7⟩ : ∃ g7 c7, v7 = .slice (some ⟨g7, 0, none⟩) A.length c7 := by
        obtain ⟨g7, c7, _, h, _⟩ := q7
        exact ⟨g7, c7, h⟩
      subst hv7
      have HEu := Lib.hid hEu
      have d0 := cell_keep fq c0
      have htr1 := htr.out.later fq
      clear hEu HE HM q7 q1 c0 c1 hN htr HFR fq cx
      go_wp2_with (fail)
      refine HEu.out.mono ?_
      rintro e u2 ⟨rfl, rfl⟩
      clear HEu
      obtain ⟨n4, n6, t1, t2, t3, t4, t5, t6⟩ := htr1
      have htl : (l.take k).length ≤ 1000000 := by rw [List.length_take]; omega
      have hb5 : Below w.heap.size w (u1.alloc (.cells #[.pointer (some ⟨N, 0, none⟩)] 121)) := t3.alloc t3.size _
      have own4 := t4.alloc (.cells #[.pointer (some ⟨N, 0, none⟩)] 121)
      have own6 := t5.alloc (.cells #[.pointer (some ⟨N, 0, none⟩)] 121)
      have rd := one_rd u1 121 (.pointer (some ⟨N, 0, none⟩))
      have hsz5 := hb5.size
      clear t3 t4 t5
      rcases ho2 with hA | hA
      · skip
        have hlx : len4B (A, M) = true := by unfold len4B; simp only; rw [hA]; rfl
        have e4 : ((A.length : Int) == 4) = true := by rw [hA]; rfl
        have HLX := Lib.hid hlx
        clear hlx hA
        go_wp2_with (first
          | (at_builtin
             refine wpList_append_any _ rfl _ (.tmp 54) _ rfl w.heap.size 121 i0 _ 1 8 Tryz.underlying78 hi0 hz0 hz1 hz2 rfl (by omega) u3 n4 _ rfl own4 (u1.heap.size + 1) (some ⟨u1.heap.size, 0, none⟩) 1 1 _ rfl rd (by simp [Value.oneCell']) (by simp only [maxLen]; omega) (by omega) hsz5 ?_
             intro v1 w5 k1 k2 k3))
        have htr2 := TwoRows.push4 (x := (N, A, M)) t1 t2 hb5 own4 own6 t6 HLX.out k1 k2 k3
        have HT2 := Lib.hid (show TwoRows w w5 (l.take (k + 1)) v1 u4 by rw [HTK.out]; exact htr2)
        clear k1 k2 k3 own4 own6 rd htr2 t1 t2 t6
        go_wp2
        go_roundw
        case rel => exact ⟨k + 1, by go_num, by omega, (by obtain ⟨_, _, _, _, h, _⟩ := HT2.out; exact h), HT2.out⟩
        case measure => simp only [intOf]; omega
      · skip
        have hlx : len4B (A, M) = false := by unfold len4B; simp only; rw [hA]; rfl
        have e4 : ((A.length : Int) == 4) = false := by rw [hA]; rfl
        have HLX := Lib.hid hlx
        clear hlx hA
        go_wp2_with (first
          | (at_builtin
             refine wpList_append_any _ rfl _ (.tmp 58) _ rfl w.heap.size 121 i0 _ 1 8 Tryz.underlying78 hi0 hz0 hz1 hz2 rfl (by omega) u4 n6 _ rfl own6 (u1.heap.size + 1) (some ⟨u1.heap.size, 0, none⟩) 1 1 _ rfl rd (by simp [Value.oneCell']) (by simp only [maxLen]; omega) (by omega) hsz5 ?_
             intro v1 w5 k1 k2 k3))
        have htr2 := TwoRows.push6 (x := (N, A, M)) t1 t2 hb5 own4 own6 t6 HLX.out k1 k2 k3
        have HT2 := Lib.hid (show TwoRows w w5 (l.take (k + 1)) u3 v1 by rw [HTK.out]; exact htr2)
        clear k1 k2 k3 own4 own6 rd htr2 t1 t2 t6
        go_wp2
        go_roundw
        case rel => exact ⟨k + 1, by go_num, by omega, (by obtain ⟨_, _, _, _, h, _⟩ := HT2.out; exact h), HT2.out⟩
        case measure => simp only [intOf]; omega
    · obtain rfl : k = l.length := by omega
      have htr1 := htr.out
      rw [List.take_length] at htr1
      have hfin : ∀ (W : World) (D : Nat) (u4 u6 : Value), Blk W D 188 #[u4, u6] → IsSet W 4 ((f4X l).map (·.2)) u4 → IsSet W 16 ((f6X l).map (·.2)) u6 → IsIp (l.map (·.2)) W (.iface 186 (.pointer (some ⟨D, 0, none⟩))) := fun W D u4 u6 hD s4 s6 =>
        .inr ⟨D, u4, u6, rfl, fun e => h0 (List.map_eq_nil_iff.1 e), fun n hn => by
          obtain ⟨x, hx, rfl⟩ := List.mem_map.1 hn
          exact HOK.out x hx, hD, by rw [← f4X_map]; exact s4, by rw [← f6X_map]; exact s6⟩
      have FIN := Lib.hid hfin
      have hm4 : ∀ x ∈ f4X l, x ∈ l ∧ NetOk x.2 ∧ x.2.1.length = 4 := fun x hx => by
        obtain ⟨h1, h2⟩ := List.mem_filter.1 hx
        exact ⟨h1, HOK.out x h1, beq_iff_eq.1 h2⟩
      have hm6 : ∀ x ∈ f6X l, x ∈ l ∧ NetOk x.2 ∧ x.2.1.length = 16 := fun x hx => by
        obtain ⟨h1, h2⟩ := List.mem_filter.1 hx
        have h3 := HOK.out x h1
        refine ⟨h1, h3, ?_⟩
        rcases addrB_len h3.addr with h | h
        · unfold len4B at h2
          rw [h] at h2
          simp at h2
        · exact h
      have hl4 : (f4X l).length ≤ l.length := List.length_filter_le _ _
      have hl6 : (f6X l).length ≤ l.length := List.length_filter_le _ _
      have HM4 := Lib.hid hm4
      have HM6 := Lib.hid hm6
      obtain ⟨n4, n6, t1, t2, t3, t4, t5, t6⟩ := htr1
      have HT6 := Lib.hid t6
      clear htr hfin hm4 hm6 t1 t2 t6 HC hv hg hnil
      by_cases h4 : f4X l = []
      · by_cases h6 : f6X l = []
        · exfalso
          match l, h0 with
          | x :: r, _ =>
            unfold f4X at h4
            unfold f6X at h6
            rw [List.filter_cons] at h4 h6
            cases hx : len4B x.2 <;> rw [hx] at h4 h6 <;> simp at h4 h6
        · obtain ⟨g6, cap6, cur6, rfl, hg6, hcap6, hrow6, hbase6⟩ := own_open t5 h6
          rw [h4] at t4
          obtain ⟨A4, c4, rfl⟩ := own_nil t4
          have hp6 : 0 < (f6X l).length := List.length_pos_iff.2 h6
          have hA1 : Below wr.heap.size wr (wr.alloc (.cells #[.slice (some ⟨g6, 0, none⟩) (f6X l).length cap6] 182)) := (Below.refl _ _).alloc (Nat.le_refl _) _
          have K := Lib.hid (makeSet_calls (f6X l) 16 wr.heap.size g6 cap6 cur6 (wr.alloc (.cells #[.slice (some ⟨g6, 0, none⟩) (f6X l).length cap6] 182)) (Blk.new _ _ _) (hg6.later hA1) hrow6 h6 (by omega) hcap6 (fun x hx => ((HAT.out x (HM6.out x hx).1).later t3).later hA1) (fun x hx => (HM6.out x hx).2))
          have hBA := t3.trans (hA1.mono t3.size)
          have hbs := t3.size
          have N4 : Hid ((f4X l).map (·.2) = []) := by show (f4X l).map (·.2) = []; rw [h4]; rfl
          clear t4 t5 h4 h6 hg6 hrow6 hA1
          go_wp2_with (fail)
          refine K.out.mono ?_
          rintro e w2 ⟨rfl, hb2, hset, _⟩
          have hB2 := hBA.trans (hb2.below hbs hbase6 hBA.size)
          clear K hb2 hBA
          have hbD : Below w2.heap.size w2 (w2.alloc (.cells #[.pointer none, .pointer (some ⟨wr.heap.size, 0, none⟩)] 188)) := (Below.refl _ _).alloc (Nat.le_refl _) _
          have R := Lib.hid (FIN.out _ _ _ _ (Blk.new w2 188 #[.pointer none, .pointer (some ⟨wr.heap.size, 0, none⟩)]) (.inl ⟨N4.out, rfl⟩) (hset.later hbD).set)
          have RB := Lib.hid (hB2.trans (hbD.mono hB2.size))
          clear FIN hset hbD hB2
          go_wp2
          go_ret
          exact ⟨_, rfl, rfl, rfl, R.out, RB.out⟩
      · obtain ⟨g4, cap4, cur4, rfl, hg4, hcap4, hrow4, hbase4⟩ := own_open t4 h4
        have hp4 : 0 < (f4X l).length := List.length_pos_iff.2 h4
        have hA1 : Below wr.heap.size wr (wr.alloc (.cells #[.slice (some ⟨g4, 0, none⟩) (f4X l).length cap4] 182)) := (Below.refl _ _).alloc (Nat.le_refl _) _
        have K := Lib.hid (makeSet_calls (f4X l) 4 wr.heap.size g4 cap4 cur4 (wr.alloc (.cells #[.slice (some ⟨g4, 0, none⟩) (f4X l).length cap4] 182)) (Blk.new _ _ _) (hg4.later hA1) hrow4 h4 (by omega) hcap4 (fun x hx => ((HAT.out x (HM4.out x hx).1).later t3).later hA1) (fun x hx => (HM4.out x hx).2))
        have hBA := t3.trans (hA1.mono t3.size)
        have hbs := t3.size
        by_cases h6 : f6X l = []
        · rw [h6] at t5
          obtain ⟨A6, c6, rfl⟩ := own_nil t5
          have N6 : Hid ((f6X l).map (·.2) = []) := by show (f6X l).map (·.2) = []; rw [h6]; rfl
          clear t4 t5 h4 h6 hg4 hrow4 hA1
          go_wp2_with (fail)
          refine K.out.mono ?_
          rintro e w2 ⟨rfl, hb2, hset, _⟩
          have hB2 := hBA.trans (hb2.below hbs hbase4 hBA.size)
          clear K hb2 hBA
          have hbD : Below w2.heap.size w2 (w2.alloc (.cells #[.pointer (some ⟨wr.heap.size, 0, none⟩), .pointer none] 188)) := (Below.refl _ _).alloc (Nat.le_refl _) _
          have R := Lib.hid (FIN.out _ _ _ _ (Blk.new w2 188 #[.pointer (some ⟨wr.heap.size, 0, none⟩), .pointer none]) (hset.later hbD).set (.inl ⟨N6.out, rfl⟩))
          have RB := Lib.hid (hB2.trans (hbD.mono hB2.size))
          clear FIN hset hbD hB2
          go_wp2
          go_ret
          exact ⟨_, rfl, rfl, rfl, R.out, RB.out⟩
        · obtain ⟨g6, cap6, cur6, rfl, hg6, hcap6, hrow6, hbase6⟩ := own_open t5 h6
          have hp6 : 0 < (f6X l).length := List.length_pos_iff.2 h6
          have hne : g6 ≠ g4 := fun e => HT6.out g4 rfl (by rw [e]; rfl)
          have hgl := hg6.lt
          have hg6' := hg6.later hA1
          have hgS : g6 ≠ wr.heap.size := by omega
          have H6 := Lib.hid h6
          have HR6 := Lib.hid hrow6
          have HNE := Lib.hid hne
          clear t4 t5 h4 hg4 hrow4 hA1 h6 hrow6 hg6
          go_wp2_with (fail)
          refine K.out.mono ?_
          rintro e w2 ⟨rfl, hb2, hset, hcar⟩
          have hB2 := hBA.trans (hb2.below hbs hbase4 hBA.size)
          have hg62 := hb2.blk hg6' hgS HNE.out
          have hz2 : wr.heap.size < w2.heap.size := by have := hb2.size; simp only [World.size_alloc] at this; omega
          have hA2 : Below w2.heap.size w2 (w2.alloc (.cells #[.slice (some ⟨g6, 0, none⟩) (f6X l).length cap6] 182)) := (Below.refl _ _).alloc (Nat.le_refl _) _
          have K6 := Lib.hid (makeSet_calls (f6X l) 16 w2.heap.size g6 cap6 cur6 (w2.alloc (.cells #[.slice (some ⟨g6, 0, none⟩) (f6X l).length cap6] 182)) (Blk.new _ _ _) (hg62.later hA2) HR6.out H6.out (by omega) hcap6 (fun x hx => (((HAT.out x (HM6.out x hx).1).later hBA).carry hcar (by simp) (by simp)).later hA2) (fun x hx => (HM6.out x hx).2))
          have hBA2 := hB2.trans (hA2.mono hB2.size)
          have hset2 := hset.later hA2
          have hg4l : g4 < w2.heap.size := by obtain ⟨_, _, _, _, hq, _⟩ := hset; exact hq.lt
          clear K hb2 hBA hcar hset hA2 hg62 hg6'
          go_wp2_with (fail)
          refine K6.out.mono ?_
          rintro e w3 ⟨rfl, hb3, hset6, hcar3⟩
          have hset4 := hset2.but2 hb3 (by omega) (by omega) (by omega) (fun e => HNE.out e.symm) hcar3
          have hB3 := hBA2.trans (hb3.below (by have := hB2.size; omega) hbase6 hBA2.size)
          clear K6 hb3 hBA2 hset2 hcar3 hB2
          have hbD : Below w3.heap.size w3 (w3.alloc (.cells #[.pointer (some ⟨wr.heap.size, 0, none⟩), .pointer (some ⟨w2.heap.size, 0, none⟩)] 188)) := (Below.refl _ _).alloc (Nat.le_refl _) _
          have R := Lib.hid (FIN.out _ _ _ _ (Blk.new w3 188 #[.pointer (some ⟨wr.heap.size, 0, none⟩), .pointer (some ⟨w2.heap.size, 0, none⟩)]) (hset4.later hbD).set (hset6.later hbD).set)
          have RB := Lib.hid (hB3.trans (hbD.mono hB3.size))
          clear FIN hset4 hset6 hbD hB3
          go_wp2
          go_ret
          exact ⟨_, rfl, rfl, rfl, R.out, RB.out⟩
end Go.Proofs.YtblabjfjhlablaaGreatDoor
/- The walks of network and networks; what is known of networks and addresses, for chains. -/
namespace Go.Proofs.YtblabjfjhlablaaGreatDoor
open Go.RowKit Go.Sort Nc
theorem ones_b8 (l : List UInt8) : ∀ u ∈ l.map b8, u.oneCell' = true := by
  intro u hu
  obtain ⟨s, _, rfl⟩ := List.mem_map.1 hu
  rfl
theorem BSl.val {w : World} {v : Value} {l : List UInt8} (h : BSl w v l) : ∃ g c, v = .slice (some ⟨g, 0, none⟩) l.length c := by
  obtain ⟨g, c, _, h, _⟩ := h
  exact ⟨g, c, h⟩
/-- copied, of bytes that are some. -/
theorem copyB_calls (A : Option Addr) (l : List UInt8) (c : Nat) (w : World) (h : Byt w A l) (h0 : l ≠ []) (hl : l.length ≤ 1000000) : Calls Tryz.prog 67 #[.slice A l.length c] w (NewBytes l w) := by
  refine (copied_calls A l.length c (l.map b8) w h (ones_b8 l) hl).mono ?_
  rintro e w' ⟨v, rfl, ho, hb⟩
  exact ⟨v, rfl, .of_row (SRow.of_own ho) h0, hb⟩
/-- A network of the call's own. -/
def NetNew (n : NetV) (w : World) (e : Ending) (w' : World) : Prop := ∃ N, e = .returned (encX (N, n)) ∧ NetAt w' (N, n) ∧ Below w.heap.size w w'
set_option maxRecDepth 100000 in
set_option maxHeartbeats 1000000 in
theorem network_calls (A M : Option Addr) (n : NetV) (ca cm : Nat) (w : World) (hA : Byt w A n.1) (hM : Byt w M n.2) (ok : NetOk n) :
    Calls Tryz.prog 89 #[.agg #[.slice A n.1.length ca, .slice M n.2.length cm]] w (NetNew n w) := by
  have hl := addrB_len ok.addr
  have hl2 := ok.len
  have na : n.1 ≠ [] := fun e => by rw [e] at hl; simp at hl
  have nm : n.2 ≠ [] := fun e => by rw [e] at hl2; simp at hl2; omega
  have KA := Lib.hid (fun (W : World) (hW : Below w.heap.size w W) => copyB_calls A n.1 ca W (hA.later hW) na (by omega))
  have KM := Lib.hid (fun (W : World) (hW : Below w.heap.size w W) => copyB_calls M n.2 cm W (hM.later hW) nm (by omega))
  have hC : Blk (w.alloc (.cells #[.slice A n.1.length ca, .slice M n.2.length cm] 72)) w.heap.size 72 #[.slice A n.1.length ca, .slice M n.2.length cm] := Blk.new _ _ _
  have hb0 : Below w.heap.size w (w.alloc (.cells #[.slice A n.1.length ca, .slice M n.2.length cm] 72)) := (Below.refl _ _).alloc (Nat.le_refl _) _
  clear hA hM ok hl hl2 na nm
  go_enter Tryz.func89, Tryz.ntmps89
  go_wp2
  generalize w.alloc (.cells #[.slice A n.1.length ca, .slice M n.2.length cm] 72) = W0 at *
  go_region_held3 (fun W => W.cell? ⟨w.heap.size, 0, none⟩ = some (.slice A n.1.length ca) ∧ W.cell? ⟨w.heap.size, 1, none⟩ = some (.slice M n.2.length cm))
    (first | exact ⟨hC.drew.at_ 0 rfl, hC.drew.at_ 1 rfl⟩ | exact ⟨D2.at_ 0 rfl, D2.at_ 1 rfl⟩ | exact ⟨D1.at_ 0 rfl, D1.at_ 1 rfl⟩ | exact ⟨(D2.alloc _).at_ 0 rfl, (D2.alloc _).at_ 1 rfl⟩)
    (first
      | (go_at_call 67; (with_reducible refine (KA.out _ hb0.drew).mono ?_); rintro e wa ⟨va, rfl, ta, ba⟩; obtain ⟨ga, ka, rfl⟩ := ta.val; have B1 := hb0.drew.trans (ba.mono hb0.drew.size); have D1 := hC.drew.later ba)
      | (go_at_call 67; (with_reducible refine (KM.out _ B1).mono ?_); rintro e wm ⟨vm, rfl, tm, bm⟩; obtain ⟨gm, km, rfl⟩ := tm.val; have B2 := B1.trans (bm.mono B1.size); have D2 := D1.later bm; have sa := ta.later bm; have sm := tm)
      | (go_at_call 67; (with_reducible refine (KM.out _ hb0.drew).mono ?_); rintro e wm ⟨vm, rfl, tm, bm⟩; obtain ⟨gm, km, rfl⟩ := tm.val; have B1 := hb0.drew.trans (bm.mono hb0.drew.size); have D1 := hC.drew.later bm)
      | (go_at_call 67; (with_reducible refine (KA.out _ B1).mono ?_); rintro e wa ⟨va, rfl, ta, ba⟩; obtain ⟨ga, ka, rfl⟩ := ta.val; have B2 := B1.trans (ba.mono B1.size); have D2 := D1.later ba; have sa := ta; have sm := tm.later ba))
  all_goals go_wp2
  all_goals go_ret
  all_goals exact ⟨_, rfl, ⟨_, _, Blk.new _ _ _, sa.later ((Below.refl _ _).alloc (Nat.le_refl _) _), sm.later ((Below.refl _ _).alloc (Nat.le_refl _) _)⟩, B2.alloc B2.size _⟩
/-- Networks as the caller's memory holds them, read. -/
def NetsRd (w : World) (A : Option Addr) (l : List NetV) : Prop :=
  ∃ (a b : Nat → Option Addr) (ac bc : Nat → Nat), NetsAt w A l.length (fun k => .slice (a k) (l.getD k ([], [])).1.length (ac k)) (fun k => .slice (b k) (l.getD k ([], [])).2.length (bc k)) ∧
    ∀ k (h : k < l.length), Byt w (a k) l[k].1 ∧ Byt w (b k) l[k].2
theorem NetsRd.later {w w' : World} {A : Option Addr} {l : List NetV} (h : NetsRd w A l) (hb : Below w.heap.size w w') : NetsRd w' A l := by
  obtain ⟨a, b, ac, bc, h1, h2⟩ := h
  refine ⟨a, b, ac, bc, fun hn => ?_, fun k hk => ⟨(h2 k hk).1.later hb, (h2 k hk).2.later hb⟩⟩
  obtain ⟨g, off, e, h3⟩ := h1 hn
  exact ⟨g, off, e, fun k hk => ⟨cell_keep hb (h3 k hk).1, cell_keep hb (h3 k hk).2⟩⟩
/-- Networks as they lie for the package. -/
def NetsLie (l : List NetV) (w : World) (v : Value) : Prop := ∃ m : List NetX, m.map (·.2) = l ∧ SRow w 121 v (m.map encX) ∧ ∀ x ∈ m, NetAt w x
set_option maxRecDepth 100000 in
set_option maxHeartbeats 2000000 in
theorem networks_calls (A : Option Addr) (l : List NetV) (c : Nat) (w : World) (h : NetsRd w A l) (ok : ∀ n ∈ l, NetOk n) (hl : l.length ≤ 1000000) :
    Calls Tryz.prog 66 #[.slice A l.length c] w (Makes (NetsLie l) w) := by
  obtain ⟨i0, hi0, hz0, hz1, hz2⟩ := info_parts netPtr_info
  obtain ⟨a, b, ac, bc, h1, h2⟩ := h
  have H1 := Lib.hid h1
  have H2 := Lib.hid h2
  have HK := Lib.hid ok
  clear h1 h2 ok
  go_enter Tryz.func66, Tryz.ntmps66
  go_wp2
  go_loopw [3, 8] (fun o i wr => ∃ (k : Nat) (m : List NetX), i = .int .i64 k ∧ k ≤ l.length ∧ m.length = k ∧ Below w.heap.size w wr ∧ wr.ownsRow w.heap.size 121 1 o k (m.map encX) ∧ Hid (m.map (·.2) = l.take k ∧ ∀ x ∈ m, NetAt wr x)) (fun _ i _ => l.length - (intOf i).toNat)
  case atStart => exact ⟨0, [], rfl, Nat.zero_le _, rfl, Below.refl _ _, nil_own0 _ _ _, ⟨rfl, fun x hx => by cases hx⟩⟩
  case round =>
    obtain ⟨k, m, rfl, hk, hmk, hbr, hown, hm⟩ := hrel
    by_cases hlt : k < l.length
    · obtain ⟨g, off, rfl, hcell⟩ := H1.out (by omega)
      obtain ⟨p0, p1⟩ := hcell k hlt
      obtain ⟨b0, b1⟩ := H2.out k hlt
      have hgd : l.getD k ([], []) = l[k] := by simp [hlt]
      simp only [hgd] at p0 p1
      have P0 := cell_keep hbr p0
      have P1 := cell_keep hbr p1
      have hcl := fun (W : World) (hW : Below w.heap.size w W) => network_calls (a k) (b k) l[k] (ac k) (bc k) W (b0.later hW) (b1.later hW) (HK.out _ (List.getElem_mem hlt))
      have HTK := Lib.hid (show l.take (k + 1) = l.take k ++ [l[k]] from List.take_succ_eq_append_getElem hlt)
      generalize l[k] = n at *
      have HCL := Lib.hid hcl
      have HMK := Lib.hid hmk
      clear hcl hcell p0 p1 b0 b1 hgd hmk
      have hA := hbr.alloc hbr.size (.cells #[.slice (a k) n.1.length (ac k), .slice (b k) n.2.length (bc k)] 72)
      have bA : Below wr.heap.size wr (wr.alloc (.cells #[.slice (a k) n.1.length (ac k), .slice (b k) n.2.length (bc k)] 72)) := (Below.refl _ _).alloc (Nat.le_refl _) _
      have HA := Lib.hid hA
      have BA := Lib.hid bA
      clear hA bA
      go_wp2_with (fail)
      refine (HCL.out _ HA.out).mono ?_
      rintro e w1 ⟨N, rfl, hN, b1⟩
      have b2 := BA.out.trans (b1.mono BA.out.size)
      have hb1 := hbr.trans (b2.mono hbr.size)
      have hown1 := own_later hown b2
      have hm1 : Hid ((m ++ [(N, n)]).map (·.2) = l.take (k + 1) ∧ ∀ x ∈ m ++ [(N, n)], NetAt w1 x) := by
        show _ ∧ _
        refine ⟨by rw [List.map_append, hm.out.1, HTK.out]; rfl, fun x hx => ?_⟩
        rcases List.mem_append.1 hx with hx | hx
        · exact (hm.out.2 x hx).later b2
        · simp only [List.mem_singleton] at hx; subst hx; exact hN
      clear b1 b2 hown hm hbr P0 P1 HCL HA BA hN
      unfold encX
      have hb2 := hb1.alloc hb1.size (.cells #[.pointer (some ⟨N, 0, none⟩)] 121)
      have hown2 := hown1.alloc (.cells #[.pointer (some ⟨N, 0, none⟩)] 121)
      have hA2 : Below w1.heap.size w1 (w1.alloc (.cells #[.pointer (some ⟨N, 0, none⟩)] 121)) := (Below.refl _ _).alloc (Nat.le_refl _) _
      have hrd := one_rd w1 121 (.pointer (some ⟨N, 0, none⟩))
      go_wp2_with (first
        | (at_builtin
           refine wpList_append_any _ rfl _ (.tmp 15) _ rfl w.heap.size 121 i0 _ 1 8 Tryz.underlying78 hi0 hz0 hz1 hz2 rfl (by omega) u3 k _ rfl hown2 (w1.heap.size + 1) (some ⟨w1.heap.size, 0, none⟩) 1 1 _ rfl hrd (by simp [Value.oneCell']) (by simp only [maxLen]; omega) (by omega) hb2.size ?_
           intro v3 w3 hown3 hg3 hat3))
      have hb3 := hb2.grown hg3 hb2.size (fun q hq => (hown2.lt q hq).1)
      have hk3 : Keeps 121 w1 w3 := (Keeps.of_below hA2).trans (Keeps.of_grown hown2 hg3)
      have hrow : w3.ownsRow w.heap.size 121 1 v3 (k + 1) ((m ++ [(N, n)]).map encX) := by
        rw [List.map_append]; exact hown3
      have hm3 : Hid ((m ++ [(N, n)]).map (·.2) = l.take (k + 1) ∧ ∀ x ∈ m ++ [(N, n)], NetAt w3 x) :=
        ⟨hm1.out.1, fun x hx => (hm1.out.2 x hx).carry (ts := [5, 177]) (.keeps hk3 (by decide)) (by simp) (by simp)⟩
      clear hat3 hg3 hown3 hown2 hrd hA2 hown1 hm1 hk3 hb1 hb2
      go_wp2
      go_roundw
      case rel => exact ⟨k + 1, m ++ [(N, n)], by go_num, by omega, by rw [List.length_append, HMK.out]; rfl, hb3, hrow, hm3⟩
      case measure => simp only [intOf]; omega
    · obtain rfl : k = l.length := by omega
      have hm2 := hm.out
      rw [List.take_length] at hm2
      have HM2 := Lib.hid hm2
      have hsr := SRow.of_own hown
      clear hm hm2 hmk
      rcases hsr with ⟨rfl, hz⟩ | ⟨g, cp, cur, rfl, hrest⟩
      · have HZ := Lib.hid hz
        clear hz hown
        go_wp2
        go_ret
        exact ⟨_, rfl, rfl, rfl, ⟨m, HM2.out.1, .inl ⟨rfl, HZ.out⟩, HM2.out.2⟩, hbr⟩
      · have HR := Lib.hid hrest
        clear hrest hown
        go_wp2
        go_ret
        exact ⟨_, rfl, rfl, rfl, ⟨m, HM2.out.1, .inr ⟨g, cp, cur, rfl, HR.out⟩, HM2.out.2⟩, hbr⟩
end Go.Proofs.YtblabjfjhlablaaGreatDoor
