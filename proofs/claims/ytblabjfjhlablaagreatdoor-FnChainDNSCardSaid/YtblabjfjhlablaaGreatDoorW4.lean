/- The walk of sortAndPrune over names: what it leaves is the pruned list of the constraints in ascending order. -/
import Derived.Test.YtblabjfjhlablaaGreatDoorW3
namespace Go.Proofs.YtblabjfjhlablaaGreatDoor
open Go.RowKit Go.Sort Nc
/-- The cells of a row hold what a list says. -/
def RowHas {α : Type} (enc : α → Value) (l : List α) (cs : Array Value) : Prop := l.length ≤ cs.size ∧ ∀ (j : Nat) (x : α), l[j]? = some x → cs[j]? = some (enc x)
/-- Nothing turns but blocks S and g, and what is new. -/
structure But2 (S g : Nat) (w w' : World) : Prop where
  os : w'.os = w.os
  tape : w'.tape = w.tape
  output : w'.output = w.output
  size : w.heap.size ≤ w'.heap.size
  block : ∀ k, k < w.heap.size → k ≠ S → k ≠ g → w'.heap[k]? = w.heap[k]?
theorem But2.refl (S g : Nat) (w : World) : But2 S g w w := ⟨rfl, rfl, rfl, Nat.le_refl _, fun _ _ _ _ => rfl⟩
theorem But2.drewN {S g : Nat} {w w' : World} (h : But2 S g w w') (n : Nat) : But2 S g w (w'.drewN n) := ⟨h.os, h.tape, h.output, h.size, h.block⟩
theorem But2.drew {S g : Nat} {w w' : World} (h : But2 S g w w') : But2 S g w w'.drew := ⟨h.os, h.tape, h.output, h.size, h.block⟩
theorem But2.setCell {S g : Nat} {w w' : World} (h : But2 S g w w') {p : Addr} (hp : p.block = S ∨ p.block = g) (u : Value) : But2 S g w (w'.setCell p u) :=
  ⟨h.os, h.tape, h.output, by simpa [World.setCell] using h.size, fun k hk h1 h2 => (Below.heap_setCell _ _ _ _ (by rcases hp with e | e <;> omega)).trans (h.block k hk h1 h2)⟩
theorem But2.below {S g B : Nat} {w w' : World} (h : But2 S g w w') (h1 : B ≤ S) (h2 : B ≤ g) (h3 : B ≤ w.heap.size) : Below B w w' :=
  ⟨h.os, h.tape, h.output, h.size, fun k hk => h.block k (by omega) (by omega) (by omega)⟩
theorem But2.blk {S g k : Nat} {t : TypeId} {cs : Array Value} {w w' : World} (h : But2 S g w w') (hb : Blk w k t cs) (h1 : k ≠ S) (h2 : k ≠ g) : Blk w' k t cs := (h.block k hb.lt h1 h2).trans hb
theorem But2.of_only {S g : Nat} {w w' : World} (h : Only g w w') : But2 S g w w' := ⟨h.os, h.tape, h.output, h.size, fun k hk _ h2 => h.block k hk h2⟩
/-- In ascending order. -/
def Asc {α : Type} (cmp : α → α → Int) (l : List α) : Prop := l.Pairwise (fun a b => ¬ cmp b a < 0)
/-- What sortAndPrune leaves. -/
def Pruned {α : Type} (enc : α → Value) (cmp : α → α → Int) (sub : α → α → Bool) (ts te : TypeId) (d : List α) (S g cap : Nat) (w : World) (e : Ending) (w' : World) : Prop :=
  e = .returned (.tuple #[]) ∧ ∃ (srt : List α) (cur : Array Value), srt.Perm d ∧ Asc cmp srt ∧ Blk w' S ts #[.slice (some ⟨g, 0, none⟩) (prune sub srt).length cap] ∧ Blk w' g te cur ∧
    RowHas enc (prune sub srt) cur ∧ (prune sub srt).length ≤ cap ∧ But2 S g w w'
theorem pruneFrom_length {α : Type} (sub : α → α → Bool) (l : List α) (x : α) : (pruneFrom sub x l).length ≤ l.length := (pruneFrom_sub l x).length_le
theorem prune_length {α : Type} (sub : α → α → Bool) (l : List α) : (prune sub l).length ≤ l.length := (prune_sub l).length_le
set_option maxRecDepth 100000 in
set_option maxHeartbeats 1000000 in
theorem sortPrune_one (x : Nam) (S g cap : Nat) (cur : Array Value) (w : World) (hS : Blk w S 137 #[.slice (some ⟨g, 0, none⟩) 1 cap]) (hg : Blk w g 9 cur) (hc : RowHas encN [x] cur) (hcap : 1 ≤ cap) :
    Calls Tryz.prog 101 #[.pointer (some ⟨S, 0, none⟩), .func (.func 102) #[] #[], .func (.func 103) #[] #[]] w (Pruned encN cmpN subN 137 9 [x] S g cap w) := by
  have c0 := hS.at_ 0 rfl
  go_enter Tryz.func101, Tryz.ntmps101
  go_wp2
  go_end0
  exact ⟨rfl, [x], cur, .refl _, List.pairwise_singleton _ _, hS, hg, hc, hcap, But2.refl _ _ _⟩
theorem range_row {α : Type} [Inhabited α] {enc : α → Value} {d : List α} {cs : Array Value} (h : RowHas enc d cs) {w : World} {g : Nat} {t : TypeId} (hb : Blk w g t cs) : Holds enc w g 0 d.toArray := by
  intro j hj
  have hj' : j < d.length := by simpa using hj
  refine ⟨?_, hb.frozen _⟩
  rw [Nat.zero_add, hb.cell]
  refine h.2 j _ ?_
  simp [hj']
theorem dnsHasSuffix_quiet (a b : ByteArray) (w : World) (h0 : 0 < a.size) (ha : a.size ≤ 4611686018427387904) (hb : b.size ≤ 4611686018427387904) (n : Nat) :
    Calls Tryz.prog 103 #[.string a, .string b] (w.drewN n) fun e w'' => e = .returned (.bool (sufB a b)) ∧ ∃ m, w'' = w.drewN m :=
  (dnsHasSuffix_calls a b (w.drewN n) h0 ha hb).mono fun _ _ ⟨he, m, hm⟩ => ⟨he, n + m, by rw [← hm, World.drewN_drewN]⟩
theorem sorted_list (d : List Nam) (d' : Array Nam) (hp : PermIn 0 d.toArray.size d.toArray d') (hs : SortedIn (ltOf cmpN) 0 d.toArray.size d') :
    ∃ srt : List Nam, srt = d'.toList ∧ srt.Perm d ∧ Asc cmpN srt := by
  obtain ⟨h1, _, h3⟩ := hp
  refine ⟨d'.toList, rfl, ?_, ?_⟩
  · have e1 : d'.extract 0 d.toArray.size = d' := by rw [← h1]; exact Array.extract_size
    have e2 : d.toArray.extract 0 d.toArray.size = d.toArray := Array.extract_size
    rw [e1, e2] at h3
    exact h3
  · unfold Asc
    rw [List.pairwise_iff_getElem]
    intro i j hi hj hij
    have h := hs i j (Nat.zero_le _) hij (by rw [← h1]; simpa using hj)
    rw [getElem!_pos d' j (by simpa using hj), getElem!_pos d' i (by simpa using hi)] at h
    exact of_decide_eq_false h
set_option maxRecDepth 100000 in
set_option maxHeartbeats 1000000 in
theorem sortPrune_more (d : List Nam) (S g cap : Nat) (cur : Array Value) (w : World) (hS : Blk w S 137 #[.slice (some ⟨g, 0, none⟩) d.length cap]) (hg : Blk w g 9 cur) (hc : RowHas encN d cur) (h2 : 2 ≤ d.length) (hl : d.length ≤ 1000000) (hcap : d.length ≤ cap) :
    Calls Tryz.prog 101 #[.pointer (some ⟨S, 0, none⟩), .func (.func 102) #[] #[], .func (.func 103) #[] #[]] w (Pruned encN cmpN subN 137 9 d S g cap w) := by
  have c0 := hS.at_ 0 rfl
  have hsort := Tryz.slices_SortFunc encN (fun x => rfl) cmpN namSWO 102 #[] g 0 cap d.toArray w eg102 (namCmp _ _ _ _) (range_row hc hg) hg.lt (by simp; omega)
  rw [List.size_toArray] at hsort
  have HS := Lib.hid hsort
  clear hsort
  have hne : S ≠ g := Blk.ne_ hS hg (by decide)
  have HF : Hid (Tryz.prog.funcs.size = Tryz.prog.funcs.size) := rfl
  clear HF
  go_enter Tryz.func101, Tryz.ntmps101
  go_wp2_with (fail)
  refine HS.out.mono ?_
  rintro e w1 ⟨rfl, d', n, os, hperm, hsorted, hw1⟩
  have hP := sorted_list d d' hperm hsorted
  have hS1 : Blk w1 S 137 #[.slice (some ⟨g, 0, none⟩) d.length cap] := by rw [hw1]; exact (sortWorld_only _ _ _ _ _ _).blk hS hne
  have hg1 : Blk w1 g 9 (putCells encN 0 d' cur) := by rw [hw1]; exact sortWorld_blk _ _ _ _ _ _ hg
  have hB1 : But2 S g w w1 := by rw [hw1]; exact .of_only (sortWorld_only _ _ _ _ _ _)
  clear hw1 HS hperm hsorted c0
  obtain ⟨srt, hsrt, hp, hso⟩ := hP
  have hlen : srt.length = d.length := hp.length_eq
  have c1 := hS1.at_ 0 rfl
  go_wp2_with (fail)
  go_loopw [6, 7] (fun k r wr => ∃ (kk rr : Nat) (cu : Array Value), k = .int .i64 ((kk : Int) + 1) ∧ r = .int .i64 rr ∧ But2 S g w wr ∧ Blk wr S 137 #[.slice (some ⟨g, 0, none⟩) d.length cap] ∧ Blk wr g 9 cu ∧ Pruning encN subN srt (kk + 1) rr cu) (fun _ r _ => d.length - (intOf r).toNat)
  case atStart =>
    refine ⟨0, 1, _, rfl, rfl, hB1, hS1, hg1, ?_⟩
    match srt, hlen, hsrt with
    | x :: xs, hlen, hsrt =>
      refine Pruning.start (fun j y hy => ?_) (by rw [putCells_size]; have := hc.1; omega)
      have hj : j < d'.size := by
        have := (List.getElem?_eq_some_iff.1 hy).1
        rw [hsrt] at this
        simpa using this
      rw [putCells_get encN d' cur j hj (by have e : d'.size = (x :: xs).length := by rw [hsrt]; simp
                                            have := hc.1; omega)]
      rw [hsrt] at hy
      rw [getElem!_pos d' j hj]
      rw [Array.getElem?_toList, Array.getElem?_eq_getElem hj] at hy
      rw [Option.some.inj hy]
    | [], hlen, _ => exact absurd hlen (by simp; omega)
  case round =>
    obtain ⟨kk, rr, cu, rfl, rfl, hBr, hSr, hgr, hPr⟩ := hrel
    have hrl : rr ≤ d.length := by obtain ⟨_, _, _, _, _, _, _, h, _⟩ := hPr; omega
    have hkr : kk + 1 ≤ rr := by obtain ⟨_, _, _, _, _, _, h, _, _⟩ := hPr; omega
    clear hB1 hS1 hg1 c1 hS hg
    have cS := hSr.at_ 0 rfl
    by_cases hlt : rr < d.length
    · obtain ⟨last, y, e1, e2, hdrop, hkeep⟩ := hPr.look (by omega)
      have n1 := hgr.at_ _ e1
      have n2 := hgr.at_ _ e2
      rw [Nat.add_sub_cancel] at n1
      have hsub := fun W => dnsHasSuffix_quiet last.val y.val W last.property.1 (by have := last.property.2.1; omega) (by have := y.property.2.1; omega)
      rw [subN_eq] at hsub
      have HQ := Lib.hid hsub
      have HD := Lib.hid hdrop
      have HK := Lib.hid hkeep
      clear hsub hdrop hkeep e1 e2
      unfold encN at n1 n2
      cases hv : subN last y with
      | true =>
        have HD2 := Lib.hid (HD.out hv)
        rw [hv] at HQ
        clear HK HD hv
        go_wp2
        go_quiet ((go_at_call 103; exact HQ.out _ _))
        go_wp2
        go_roundw
        case rel => exact ⟨kk, rr + 1, cu, rfl, by go_num, hBr.drewN nq, hSr.drewN nq, hgr.drewN nq, HD2.out⟩
        case measure => simp only [intOf]; omega
      | false =>
        have HK2 := Lib.hid (HK.out hv)
        rw [hv] at HQ
        clear HD HK hv
        have hkl : ((kk : Int) + 1) < (d.length : Int) := by omega
        have hfz := hgr.frozen (kk + 1)
        obtain ⟨v1, n3⟩ : ∃ v1, wr.cell? ⟨g, kk + 1, none⟩ = some v1 := by
          rw [hgr.cell]
          exact ⟨_, Array.getElem?_eq_getElem (by obtain ⟨_, _, _, _, _, _, _, _, h⟩ := hPr; omega)⟩
        go_wp2
        go_quiet ((go_at_call 103; exact HQ.out _ _))
        go_wp2
        go_region
        go_wp2
        go_roundw
        case rel =>
          refine ⟨kk + 1, rr + 1, _, by go_num, by go_num, ?_, ?_, ?_, HK2.out⟩
          · exact But2.setCell (hBr.drewN _).drew (.inr rfl) _
          · exact (hSr.drewN _).drew.far hne _
          · exact (hgr.drewN _).drew.set_ _ _
        case measure => simp only [intOf]; omega
    · obtain rfl : rr = d.length := by omega
      have hPd : Pruning encN subN srt (kk + 1) srt.length cu := by rw [hlen]; exact hPr
      obtain ⟨q1, q2⟩ := hPd.done
      have hkc : (kk : Int) + 1 ≤ (cap : Int) := by omega
      have hfz := hSr.frozen 0
      have HQ := Lib.hid q1
      clear q1
      go_wp2
      go_end0
      refine ⟨rfl, srt, cu, hp, hso, ?_, hgr.far (fun e => hne e.symm) _, ⟨?_, q2⟩, ?_, But2.setCell hBr (.inl rfl) _⟩
      · rw [HQ.out]; exact hSr.set_ 0 _
      · rw [HQ.out]; obtain ⟨_, _, _, _, _, _, _, _, h⟩ := hPd; omega
      · rw [HQ.out]; omega
end Go.Proofs.YtblabjfjhlablaaGreatDoor
