/- Names as constraints: they compare from behind and are laminar; the program's comparison serves the library's sort. -/
import Derived.Test.YtblabjfjhlablaaGreatDoorW2
import Derived.Test.YtblabjfjhlablaaGreatDoorMem
import Derived.Test.YtblabjfjhlablaaGreatDoorSh
import Derived.BigRegion
import Derived.StillTailTactics
import Derived.Lib.IndexLaws
import Derived.Maps.OwnSet
import Derived.StringKeys
namespace Go.Proofs.YtblabjfjhlablaaGreatDoor
open Go.RowKit Go.Sort Nc

/-- A constraint or a name of which the statements speak: not nothing, of 300 bytes at most, none of them 0. -/
abbrev Nam := { s : ByteArray // 0 < s.size ∧ s.size ≤ 300 ∧ NoZ s.data.toList }
instance : Inhabited Nam := ⟨⟨⟨#[97]⟩, by decide, by decide, by intro b hb; simp at hb; subst hb; decide⟩⟩
def keyN (x : Nam) : List UInt8 := x.val.data.toList.reverse
theorem keyN_noz (x : Nam) : NoZ (keyN x) := fun b hb => x.property.2.2 b (by simpa [keyN] using hb)
theorem keyN_ne (x : Nam) : keyN x ≠ [] := by
  intro h
  have := congrArg List.length h
  simp [keyN] at this
  have h2 := x.property.1
  have h3 : x.val.data.size = 0 := by rw [this]; rfl
  have h4 : x.val.data.size = x.val.size := rfl
  omega
def cmpN (x y : Nam) : Int := cmpK (keyN x) (keyN y)
def subN (x y : Nam) : Bool := sufK (keyN x) (keyN y)
theorem subN_eq (x y : Nam) : sufB x.val y.val = subN x y := by unfold sufB; rfl
def encN (x : Nam) : Value := .string x.val
theorem not_lt_swap {x y : List UInt8} (h : ¬ cmpK y x < 0) : cmpK x y ≤ 0 := by rw [cmpK_swap y x]; omega
theorem namLaminar : Laminar cmpN subN cmpN subN where
  subMat a b s h1 h2 := sufK_trans (keyN_ne a) h1 h2
  convex a b c h1 h2 h3 := sufK_between (keyN_noz a) (keyN_noz b) (not_lt_swap h1) (not_lt_swap h2) h3
  convexT a b s h1 h2 h3 := sufK_between (keyN_noz a) (keyN_noz b) (not_lt_swap h1) (by unfold cmpN at h2; omega) h3
  ahead a s h := by have := cmpK_of_preC _ _ (sufK_iff.1 h).1; unfold cmpN; omega
  exact a s h := sufK_self_of_cmp (keyN_noz a) (keyN_noz s) h
  mono a b s h1 h2 := by
    have h := cmpK_trans (keyN a) (keyN b) (keyN s) (not_lt_swap h1) (by unfold cmpN at h2; omega)
    unfold cmpN at h2 ⊢
    rcases Int.lt_or_eq_of_le h.1 with h3 | h3
    · exact h3
    · have := (h.2 h3).2; omega
  monoUp a b s h1 h2 := by
    unfold cmpN at h2 ⊢
    have e1 := cmpK_swap (keyN s) (keyN a)
    have e2 := cmpK_swap (keyN s) (keyN b)
    have h := cmpK_trans (keyN s) (keyN a) (keyN b) (by omega) (not_lt_swap h1)
    rcases Int.lt_or_eq_of_le h.1 with h3 | h3
    · omega
    · have := (h.2 h3).1; omega
theorem ltOf_true {x y : Nam} : ltOf cmpN x y = true ↔ cmpK (keyN x) (keyN y) < 0 := ⟨fun h => of_decide_eq_true h, fun h => decide_eq_true h⟩
theorem ltOf_false {x y : Nam} : ltOf cmpN x y = false ↔ ¬ cmpK (keyN x) (keyN y) < 0 := ⟨fun h => of_decide_eq_false h, fun h => decide_eq_false h⟩
theorem namSWO : SWO (ltOf cmpN) where
  irrefl x := ltOf_false.2 (by rw [cmpK_refl]; decide)
  trans x y z h1 h2 := by
    rw [ltOf_true] at *
    have h := cmpK_trans (keyN x) (keyN y) (keyN z) (by omega) (by omega)
    rcases Int.lt_or_eq_of_le h.1 with h3 | h3
    · exact h3
    · have := (h.2 h3).1; omega
  ntrans x y z h1 h2 := by
    rw [ltOf_false] at *
    have h := cmpK_trans (keyN z) (keyN y) (keyN x) (not_lt_swap h2) (not_lt_swap h1)
    have := cmpK_swap (keyN z) (keyN x)
    omega
theorem eg102 : ∀ args w, (callFunc 102 args).run Tryz.prog w = .ok (.enter 102 args) w := enters_of Tryz.func102 (by kernel_rfl) rfl
theorem two_alloc (w : World) (o : Obj) : ∃ q os', (w.alloc o).alloc o = grow (w.drewN q) os' := ⟨0, #[o, o], by rw [alloc_eq_grow, alloc_eq_grow, grow_grow]; rfl⟩
theorem namCmp (blk off size : Nat) (w : World) : CmpLays1 Tryz.prog 102 #[] encN cmpN blk off size w := by
  intro m os dk _ x y
  refine (dnsCompare_calls x.val y.val _ (by have := x.property.2.1; omega) (by have := y.property.2.1; omega)).mono ?_
  rintro e w' ⟨rfl, rfl⟩
  exact ⟨rfl, two_alloc _ _⟩
end Go.Proofs.YtblabjfjhlablaaGreatDoor
/- The walk of sortAndPrune over names: what it leaves is the pruned list of the constraints in ascending order. -/
namespace Go.Proofs.YtblabjfjhlablaaGreatDoor
open Go.RowKit Go.Sort Nc
/-- The cells of a row hold what a list says. -/
def RowHas {α : Type} (enc : α → Value) (l : List α) (cs : Array Value) : Prop := l.length ≤ cs.size ∧ ∀ (j : Nat) (x : α), l[j]? = some x → cs[j]? = some (enc x)
/-- Nothing turns but blocks S and g, and what is new. -/
structure But2 (S g : Nat) (w w' : World) : Prop where
  os : w'.os = w.os
  tape : w'.tape = w.tape
  output : w'.output = w.output
  size : w.heap.size ≤ w'.heap.size
  block : ∀ k, k < w.heap.size → k ≠ S → k ≠ g → w'.heap[k]? = w.heap[k]?
theorem But2.refl (S g : Nat) (w : World) : But2 S g w w := ⟨rfl, rfl, rfl, Nat.le_refl _, fun _ _ _ _ => rfl⟩
theorem But2.drewN {S g : Nat} {w w' : World} (h : But2 S g w w') (n : Nat) : But2 S g w (w'.drewN n) := ⟨h.os, h.tape, h.output, h.size, h.block⟩
theorem But2.drew {S g : Nat} {w w' : World} (h : But2 S g w w') : But2 S g w w'.drew := ⟨h.os, h.tape, h.output, h.size, h.block⟩
theorem But2.setCell {S g : Nat} {w w' : World} (h : But2 S g w w') {p : Addr} (hp : p.block = S ∨ p.block = g) (u : Value) : But2 S g w (w'.setCell p u) :=
  ⟨h.os, h.tape, h.output, by simpa [World.setCell] using h.size, fun k hk h1 h2 => (Below.heap_setCell _ _ _ _ (by rcases hp with e | e <;> omega)).trans (h.block k hk h1 h2)⟩
theorem But2.below {S g B : Nat} {w w' : World} (h : But2 S g w w') (h1 : B ≤ S) (h2 : B ≤ g) (h3 : B ≤ w.heap.size) : Below B w w' :=
  ⟨h.os, h.tape, h.output, h.size, fun k hk => h.block k (by omega) (by omega) (by omega)⟩
theorem But2.blk {S g k : Nat} {t : TypeId} {cs : Array Value} {w w' : World} (h : But2 S g w w') (hb : Blk w k t cs) (h1 : k ≠ S) (h2 : k ≠ g) : Blk w' k t cs := (h.block k hb.lt h1 h2).trans hb
theorem But2.of_only {S g : Nat} {w w' : World} (h : Only g w w') : But2 S g w w' := ⟨h.os, h.tape, h.output, h.size, fun k hk _ h2 => h.block k hk h2⟩
/-- In ascending order. -/
def Asc {α : Type} (cmp : α → α → Int) (l : List α) : Prop := l.Pairwise (fun a b => ¬ cmp b a < 0)
/-- What sortAndPrune leaves. -/
def Pruned {α : Type} (enc : α → Value) (cmp : α → α → Int) (sub : α → α → Bool) (ts te : TypeId) (d : List α) (S g cap : Nat) (w : World) (e : Ending) (w' : World) : Prop :=
  e = .returned (.tuple #[]) ∧ ∃ (srt : List α) (cur : Array Value), srt.Perm d ∧ Asc cmp srt ∧ Blk w' S ts #[.slice (some ⟨g, 0, none⟩) (prune sub srt).length cap] ∧ Blk w' g te cur ∧
    RowHas enc (prune sub srt) cur ∧ (prune sub srt).length ≤ cap ∧ But2 S g w w'
theorem pruneFrom_length {α : Type} (sub : α → α → Bool) (l : List α) (x : α) : (pruneFrom sub x l).length ≤ l.length := (pruneFrom_sub l x).length_le
theorem prune_length {α : Type} (sub : α → α → Bool) (l : List α) : (prune sub l).length ≤ l.length := (prune_sub l).length_le
set_option maxRecDepth 100000 in
set_option maxHeartbeats 1000000 in
theorem sortPrune_one (x : Nam) (S g cap : Nat) (cur : Array Value) (w : World) (hS : Blk w S 137 #[.slice (some ⟨g, 0, none⟩) 1 cap]) (hg : Blk w g 9 cur) (hc : RowHas encN [x] cur) (hcap : 1 ≤ cap) :
    Calls Tryz.prog 101 #[.pointer (some ⟨S, 0, none⟩), .func (.func 102) #[] #[], .func (.func 103) #[] #[]] w (Pruned encN cmpN subN 137 9 [x] S g cap w) := by
  have c0 := hS.at_ 0 rfl
  go_enter Tryz.func101, Tryz.ntmps101
  go_wp2
  go_end0
  exact ⟨rfl, [x], cur, .refl _, List.pairwise_singleton _ _, hS, hg, hc, hcap, But2.refl _ _ _⟩
theorem range_row {α : Type} [Inhabited α] {enc : α → Value} {d : List α} {cs : Array Value} (h : RowHas enc d cs) {w : World} {g : Nat} {t : TypeId} (hb : Blk w g t cs) : Holds enc w g 0 d.toArray := by
  intro j hj
  have hj' : j < d.length := by simpa using hj
  refine ⟨?_, hb.frozen _⟩
  rw [Nat.zero_add, hb.cell]
  refine h.2 j _ ?_
  simp [hj']
theorem dnsHasSuffix_quiet (a b : ByteArray) (w : World) (h0 : 0 < a.size) (ha : a.size ≤ 4611686018427387904) (hb : b.size ≤ 4611686018427387904) (n : Nat) :
    Calls Tryz.prog 103 #[.string a, .string b] (w.drewN n) fun e w'' => e = .returned (.bool (sufB a b)) ∧ ∃ m, w'' = w.drewN m :=
  (dnsHasSuffix_calls a b (w.drewN n) h0 ha hb).mono fun _ _ ⟨he, m, hm⟩ => ⟨he, n + m, by rw [← hm, World.drewN_drewN]⟩
theorem sorted_list (d : List Nam) (d' : Array Nam) (hp : PermIn 0 d.toArray.size d.toArray d') (hs : SortedIn (ltOf cmpN) 0 d.toArray.size d') :
    ∃ srt : List Nam, srt = d'.toList ∧ srt.Perm d ∧ Asc cmpN srt := by
  obtain ⟨h1, _, h3⟩ := hp
  refine ⟨d'.toList, rfl, ?_, ?_⟩
  · have e1 : d'.extract 0 d.toArray.size = d' := by rw [← h1]; exact Array.extract_size
    have e2 : d.toArray.extract 0 d.toArray.size = d.toArray := Array.extract_size
    rw [e1, e2] at h3
    exact h3
  · unfold Asc
    rw [List.pairwise_iff_getElem]
    intro i j hi hj hij
    have h := hs i j (Nat.zero_le _) hij (by rw [← h1]; simpa using hj)
    rw [getElem!_pos d' j (by simpa using hj), getElem!_pos d' i (by simpa using hi)] at h
    exact of_decide_eq_false h
set_option maxRecDepth 100000 in
set_option maxHeartbeats 1000000 in
theorem sortPrune_more (d : List Nam) (S g cap : Nat) (cur : Array Value) (w : World) (hS : Blk w S 137 #[.slice (some ⟨g, 0, none⟩) d.length cap]) (hg : Blk w g 9 cur) (hc : RowHas encN d cur) (h2 : 2 ≤ d.length) (hl : d.length ≤ 1000000) (hcap : d.length ≤ cap) :
    Calls Tryz.prog 101 #[.pointer (some ⟨S, 0, none⟩), .func (.func 102) #[] #[], .func (.func 103) #[] #[]] w (Pruned encN cmpN subN 137 9 d S g cap w) := by
  have c0 := hS.at_ 0 rfl
  have hsort := Tryz.slices_SortFunc encN (fun x => rfl) cmpN namSWO 102 #[] g 0 cap d.toArray w eg102 (namCmp _ _ _ _) (range_row hc hg) hg.lt (by simp; omega)
  rw [List.size_toArray] at hsort
  have HS := Lib.hid hsort
  clear hsort
  have hne : S ≠ g := Blk.ne_ hS hg (by decide)
  have HF : Hid (Tryz.prog.funcs.size = Tryz.prog.funcs.size) := rfl
  clear HF
  go_enter Tryz.func101, Tryz.ntmps101
  go_wp2_with (fail)
  refine HS.out.mono ?_
  rintro e w1 ⟨rfl, d', n, os, hperm, hsorted, hw1⟩
  have hP := sorted_list d d' hperm hsorted
  have hS1 : Blk w1 S 137 #[.slice (some ⟨g, 0, none⟩) d.length cap] := by rw [hw1]; exact (sortWorld_only _ _ _ _ _ _).blk hS hne
  have hg1 : Blk w1 g 9 (putCells encN 0 d' cur) := by rw [hw1]; exact sortWorld_blk _ _ _ _ _ _ hg
  have hB1 : But2 S g w w1 := by rw [hw1]; exact .of_only (sortWorld_only _ _ _ _ _ _)
  clear hw1 HS hperm hsorted c0
  obtain ⟨srt, hsrt, hp, hso⟩ := hP
  have hlen : srt.length = d.length := hp.length_eq
  have c1 := hS1.at_ 0 rfl
  go_wp2_with (fail)
  go_loopw [6, 7] (fun k r wr => ∃ (kk rr : Nat) (cu : Array Value), k = .int .i64 ((kk : Int) + 1) ∧ r = .int .i64 rr ∧ But2 S g w wr ∧ Blk wr S 137 #[.slice (some ⟨g, 0, none⟩) d.length cap] ∧ Blk wr g 9 cu ∧ Pruning encN subN srt (kk + 1) rr cu) (fun _ r _ => d.length - (intOf r).toNat)
  case atStart =>
    refine ⟨0, 1, _, rfl, rfl, hB1, hS1, hg1, ?_⟩
    match srt, hlen, hsrt with
    | x :: xs, hlen, hsrt =>
      refine Pruning.start (fun j y hy => ?_) (by rw [putCells_size]; have := hc.1; omega)
      have hj : j < d'.size := by
        have := (List.getElem?_eq_some_iff.1 hy).1
        rw [hsrt] at this
        simpa using this
      rw [putCells_get encN d' cur j hj (by have e : d'.size = (x :: xs).length := by rw [hsrt]; simp
                                            have := hc.1; omega)]
      rw [hsrt] at hy
      rw [getElem!_pos d' j hj]
      rw [Array.getElem?_toList, Array.getElem?_eq_getElem hj] at hy
      rw [Option.some.inj hy]
    | [], hlen, _ => exact absurd hlen (by simp; omega)
  case round =>
    obtain ⟨kk, rr, cu, rfl, rfl, hBr, hSr, hgr, hPr⟩ := hrel
    have hrl : rr ≤ d.length := by obtain ⟨_, _, _, _, _, _, _, h, _⟩ := hPr; omega
    have hkr : kk + 1 ≤ rr := by obtain ⟨_, _, _, _, _, _, h, _, _⟩ := hPr; omega
    clear hB1 hS1 hg1 c1 hS hg
    have cS := hSr.at_ 0 rfl
    by_cases hlt : rr < d.length
    · obtain ⟨last, y, e1, e2, hdrop, hkeep⟩ := hPr.look (by omega)
      have n1 := hgr.at_ _ e1
      have n2 := hgr.at_ _ e2
      rw [Nat.add_sub_cancel] at n1
      have hsub := fun W => dnsHasSuffix_quiet last.val y.val W last.property.1 (by have := last.property.2.1; omega) (by have := y.property.2.1; omega)
      rw [subN_eq] at hsub
      have HQ := Lib.hid hsub
      have HD := Lib.hid hdrop
      have HK := Lib.hid hkeep
      clear hsub hdrop hkeep e1 e2
      unfold encN at n1 n2
      cases hv : subN last y with
      | true =>
        have HD2 := Lib.hid (HD.out hv)
        rw [hv] at HQ
        clear HK HD hv
        go_wp2
        go_quiet ((go_at_call 103; exact HQ.out _ _))
        go_wp2
        go_roundw
        case rel => exact ⟨kk, rr + 1, cu, rfl, by go_num, hBr.drewN nq, hSr.drewN nq, hgr.drewN nq, HD2.out⟩
        case measure => simp only [intOf]; omega
      | false =>
        have HK2 := Lib.hid (HK.out hv)
        rw [hv] at HQ
        clear HD HK hv
        have hkl : ((kk : Int) + 1) < (d.length : Int) := by omega
        have hfz := hgr.frozen (kk + 1)
        obtain ⟨v1, n3⟩ : ∃ v1, wr.cell? ⟨g, kk + 1, none⟩ = some v1 := by
          rw [hgr.cell]
          exact ⟨_, Array.getElem?_eq_getElem (by obtain ⟨_, _, _, _, _, _, _, _, h⟩ := hPr; omega)⟩
        go_wp2
        go_quiet ((go_at_call 103; exact HQ.out _ _))
        go_wp2
        go_region
        go_wp2
        go_roundw
        case rel =>
          refine ⟨kk + 1, rr + 1, _, by go_num, by go_num, ?_, ?_, ?_, HK2.out⟩
          · exact But2.setCell (hBr.drewN _).drew (.inr rfl) _
          · exact (hSr.drewN _).drew.far hne _
          · exact (hgr.drewN _).drew.set_ _ _
        case measure => simp only [intOf]; omega
    · obtain rfl : rr = d.length := by omega
      have hPd : Pruning encN subN srt (kk + 1) srt.length cu := by rw [hlen]; exact hPr
      obtain ⟨q1, q2⟩ := hPd.done
      have hkc : (kk : Int) + 1 ≤ (cap : Int) := by omega
      have hfz := hSr.frozen 0
      have HQ := Lib.hid q1
      clear q1
      go_wp2
      go_end0
      refine ⟨rfl, srt, cu, hp, hso, ?_, hgr.far (fun e => hne e.symm) _, ⟨?_, q2⟩, ?_, But2.setCell hBr (.inl rfl) _⟩
      · rw [HQ.out]; exact hSr.set_ 0 _
      · rw [HQ.out]; obtain ⟨_, _, _, _, _, _, _, _, h⟩ := hPd; omega
      · rw [HQ.out]; omega
end Go.Proofs.YtblabjfjhlablaaGreatDoor
/- The library's tables as laid; strings.ToLower and trimFirstLabel come to some text. -/
namespace Go.Proofs.YtblabjfjhlablaaGreatDoor
open Go.RowKit Go.Sort Nc Go.Maps

/-- The library's tables hold what its text lays. -/
def Laid (w : World) : Prop := Lib.CaseVar 0 Lib.caseA w ∧ Lib.Utf8Tabs 4 5 w
theorem cell_keep {w w' : World} (hb : Below w.heap.size w w') {p : Addr} {v : Value} (h : w.cell? p = some v) : w'.cell? p = some v := (hb.cell (World.block_lt_of_cell? w p h)).trans h
theorem Laid.keep {w w' : World} (h : Laid w) (hb : Below w.heap.size w w') : Laid w' := by
  obtain ⟨⟨R, oR, cap, h1, h2⟩, h3, h4⟩ := h
  exact ⟨⟨R, oR, cap, cell_keep hb h1, fun i hi => by
    obtain ⟨a, b, c, d, e⟩ := h2 i hi
    exact ⟨cell_keep hb a, cell_keep hb b, cell_keep hb c, cell_keep hb d, cell_keep hb e⟩⟩, fun c hc => cell_keep hb (h3 c hc), fun i hi => ⟨cell_keep hb (h4 i hi).1, cell_keep hb (h4 i hi).2⟩⟩

theorem encode_le4 (z : Int) : (Lib.encodeRune z).length ≤ 4 := by
  unfold Lib.encodeRune Lib.encodeRuneZ
  rw [List.length_map]
  repeat' split
  all_goals simp
theorem mapD_len4 (f : Int → Int) : ∀ (n : Nat) (l : List UInt8), l.length ≤ n → (Lib.mapD f l).length ≤ 4 * l.length
  | 0, l, hn => by
    have : l = [] := List.eq_nil_of_length_eq_zero (by omega)
    subst this
    simp [Lib.mapD_nil]
  | n + 1, l, hn => by
    by_cases hne : l = []
    · subst hne
      simp [Lib.mapD_nil]
    · have hw := Lib.decodeL_width l
      have hle := Lib.decodeL_le l hne
      have ih := mapD_len4 f n (l.drop (Lib.decodeL l).2) (by rw [List.length_drop]; omega)
      rw [List.length_drop] at ih
      rw [Lib.mapD_step f l hne, List.length_append]
      have hh : (if 0 ≤ f (Lib.decodeL l).1 then Lib.encodeRune (f (Lib.decodeL l).1) else []).length ≤ 4 := by
        split
        · exact encode_le4 _
        · simp
      omega
/-- strings.ToLower comes to a text at most four times as long. -/
def SomeText (n : Nat) (w : World) (e : Ending) (w' : World) : Prop := ∃ s : ByteArray, s.size ≤ n ∧ e = .returned (.string s) ∧ Below w.heap.size w w'
theorem toLower_calls (s : ByteArray) (w : World) (hs : s.size ≤ 1000000) (hL : Laid w) : Calls Tryz.prog 104 #[.string s] w (SomeText (4 * s.size) w) := by
  refine (Tryz.strings_ToLower_any s w (by omega) hL.1 hL.2).mono ?_
  rintro e w' ⟨rfl, hb⟩
  refine ⟨_, ?_, rfl, hb⟩
  have h := mapD_len4 Lib.toLowerU s.data.toList.length s.data.toList (Nat.le_refl _)
  have e1 : (ByteArray.mk (Lib.toLowerD s.data.toList).toArray).size = (Lib.toLowerD s.data.toList).length := by
    show (Lib.toLowerD s.data.toList).toArray.size = _
    simp
  have e2 : s.data.toList.length = s.size := rfl
  rw [e1, ← e2]
  exact h
set_option maxHeartbeats 400000 in
theorem trimFirst_calls (s : ByteArray) (w : World) (hs : s.size ≤ 4611686018427387904) : Calls Tryz.prog 105 #[.string s] w fun e w' => SomeText s.size w e w' ∧ w = w' := by
  have hi := Lib.indexByte_ge s.data.toList 46
  have hj : Lib.indexByte s.data.toList 46 ≤ s.size := by
    rcases Int.lt_or_le (Lib.indexByte s.data.toList 46) 0 with h | h
    · omega
    · obtain ⟨o, ho⟩ := Int.eq_ofNat_of_zero_le h
      have := (Lib.indexByte_some ho).1
      have := (List.getElem?_eq_some_iff.1 this).1
      have e2 : s.data.toList.length = s.size := rfl
      omega
  have hc : ∀ W, Calls Tryz.prog 145 #[.string s, .int .u8 46] W fun e w' => e = .returned (.int .i64 (Lib.indexByte s.data.toList 46)) ∧ W = w' := fun W => (Tryz.strings_IndexByte s 46 W).mono fun _ _ ⟨h1, h2⟩ => ⟨h1, h2.symm⟩
  generalize Lib.indexByte s.data.toList 46 = i at *
  by_cases h0 : i < 0
  · go_enter Tryz.func105, Tryz.ntmps105
    go_wp2_with (first | (go_at_call 145; refine (hc _).mono ?_; rintro e w' ⟨rfl, rfl⟩))
    go_ret
    exact ⟨⟨_, by show (#[] : Array UInt8).size ≤ _; simp, rfl, Below.refl _ _⟩, rfl⟩
  · obtain ⟨o, rfl⟩ := Int.eq_ofNat_of_zero_le (Int.not_lt.1 h0)
    have ho : o ≤ s.size := by omega
    go_enter Tryz.func105, Tryz.ntmps105
    go_wp2_with (first | (go_at_call 145; refine (hc _).mono ?_; rintro e w' ⟨rfl, rfl⟩))
    go_ret
    exact ⟨⟨_, by simp, rfl, Below.refl _ _⟩, rfl⟩
end Go.Proofs.YtblabjfjhlablaaGreatDoor
