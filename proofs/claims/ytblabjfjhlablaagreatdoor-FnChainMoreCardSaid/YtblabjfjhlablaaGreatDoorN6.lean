/- The walks over addresses and networks: isZeros, To4, networkNumberAndMask, Contains. -/
import Derived.Test.YtblabjfjhlablaaGreatDoorBy
import Derived.Test.YtblabjfjhlablaaGreatDoorMa
import Derived.Test.YtblabjfjhlablaaGreatDoorW17
import Derived.Laws.Cover3
import Derived.Laws.BitsAllLaws
import Derived.Deep.OwnRows
import Derived.Deep.RegionHeld3
namespace Go.Proofs.YtblabjfjhlablaaGreatDoor
open Go.RowKit Go.Sort Nc
/-- Bytes in a block of their own, from its head on. -/
def BSl (w : World) (v : Value) (l : List UInt8) : Prop := ∃ (g cap : Nat) (cur : Array Value), v = .slice (some ⟨g, 0, none⟩) l.length cap ∧ Blk w g 5 cur ∧ l.length ≤ cap ∧ cap ≤ maxLen ∧ ∀ j (h : j < l.length), cur[j]? = some (.int .u8 (l[j].toNat : Int))
/-- Blocks of some types stand as they did. -/
def Carry (ts : List TypeId) (w w' : World) : Prop := ∀ g t cs, t ∈ ts → Blk w g t cs → Blk w' g t cs
theorem Carry.below {ts : List TypeId} {w w' : World} (h : Below w.heap.size w w') : Carry ts w w' := fun _ _ _ _ hb => hb.later h
theorem Carry.keeps {ts : List TypeId} {t : TypeId} {w w' : World} (h : Keeps t w w') (ht : t ∉ ts) : Carry ts w w' := fun _ _ _ hm hb => h.blk hb (fun e => ht (e ▸ hm))
theorem Carry.keep100 {ts : List TypeId} {w w' : World} (h : Keep100 w w') (ht : 100 ∉ ts) : Carry ts w w' := fun _ _ _ hm hb => h.blk hb (fun e => ht (e ▸ hm))
theorem Carry.drewN (ts : List TypeId) (w : World) (n : Nat) : Carry ts w (w.drewN n) := fun _ _ _ _ hb => hb
theorem Carry.only {ts : List TypeId} {g : Nat} {t : TypeId} {cs : Array Value} {w w' : World} (h : Only g w w') (hg : Blk w g t cs) (ht : t ∉ ts) : Carry ts w w' := fun _ _ _ hm hb => h.blk hb (Blk.ne_ hb hg (fun e => ht (e ▸ hm)))
theorem Carry.but2 {ts : List TypeId} {S g : Nat} {t u : TypeId} {cs ds : Array Value} {w w' : World} (h : But2 S g w w') (hS : Blk w S t cs) (hg : Blk w g u ds) (ht : t ∉ ts) (hu : u ∉ ts) : Carry ts w w' :=
  fun _ _ _ hm hb => h.blk hb (Blk.ne_ hb hS (fun e => ht (e ▸ hm))) (Blk.ne_ hb hg (fun e => hu (e ▸ hm)))
section
variable {w w' : World} {v : Value} {l : List UInt8}
theorem BSl.carry (h : BSl w v l) {ts : List TypeId} (hc : Carry ts w w') (h5 : 5 ∈ ts) : BSl w' v l := by
  obtain ⟨g, cap, cur, h1, h2, h3⟩ := h
  exact ⟨g, cap, cur, h1, hc _ _ _ h5 h2, h3⟩
theorem BSl.later (h : BSl w v l) (hb : Below w.heap.size w w') : BSl w' v l := h.carry (ts := [5]) (.below hb) (by simp)
theorem BSl.of_row (h : SRow w 5 v (l.map b8)) (hl : l ≠ []) : BSl w v l := by
  obtain ⟨g, cap, cur, h1, h2, h3, h4, _, h6⟩ := h.more (fun e => hl (List.map_eq_nil_iff.1 e))
  rw [List.length_map] at h1 h3
  exact ⟨g, cap, cur, h1, h2, h3, h4, fun j hj => h6 j _ (by simp [hj, b8])⟩
theorem BSl.byt (h : BSl w v l) : ∃ A c, v = .slice A l.length c ∧ Byt w A l := by
  obtain ⟨g, cap, cur, h1, h2, _, _, h5⟩ := h
  refine ⟨_, _, h1, by simp, fun _ => ⟨⟨g, 0, none⟩, rfl, h2.lt, fun j u hu => ?_⟩⟩
  rw [show (⟨g, 0, none⟩ : Addr).add j = ⟨g, j, none⟩ by unfold Addr.add; split <;> simp_all]
  rw [List.getElem?_map, Option.map_eq_some_iff] at hu
  obtain ⟨b, hb, rfl⟩ := hu
  obtain ⟨hj, rfl⟩ := List.getElem?_eq_some_iff.1 hb
  exact h2.at_ j (h5 j hj)
end
/-- A network in memory: its block, its address and its mask. -/
def NetAt (w : World) (x : Nat × (List UInt8 × List UInt8)) : Prop := ∃ va vm, Blk w x.1 177 #[va, vm] ∧ BSl w va x.2.1 ∧ BSl w vm x.2.2
theorem NetAt.carry {w w' : World} {x : Nat × (List UInt8 × List UInt8)} (h : NetAt w x) {ts : List TypeId} (hc : Carry ts w w') (h5 : 5 ∈ ts) (h177 : 177 ∈ ts) : NetAt w' x := by
  obtain ⟨va, vm, h1, h2, h3⟩ := h
  exact ⟨va, vm, hc _ _ _ h177 h1, h2.carry hc h5, h3.carry hc h5⟩
theorem NetAt.later {w w' : World} {x : Nat × (List UInt8 × List UInt8)} (h : NetAt w x) (hb : Below w.heap.size w w') : NetAt w' x := h.carry (ts := [5, 177]) (.below hb) (by simp) (by simp)
theorem u8_eq0 (b : UInt8) : (b == 0) = ((b.toNat : Int) == 0) := by
  rw [Bool.eq_iff_iff, beq_iff_eq, beq_iff_eq]
  exact ⟨fun h => by rw [h]; rfl, fun h => UInt8.toNat_inj.1 (by simpa using h)⟩
set_option maxRecDepth 100000 in
theorem isZeros_calls (g n c : Nat) (cur : Array Value) (l : List UInt8) (w : World) (hg : Blk w g 5 cur) (hn : n ≤ l.length) (hl : l.length ≤ 1000) (hc : ∀ j (h : j < l.length), cur[j]? = some (.int .u8 (l[j].toNat : Int))) :
    Calls Tryz.prog 210 #[.slice (some ⟨g, 0, none⟩) n c] w fun e w' => e = .returned (.bool ((l.take n).all (· == 0))) ∧ w = w' := by
  have HC := Lib.hid hc
  generalize hR : (l.take n).all (· == 0) = R
  have HR := Lib.hid hR
  clear hc hR
  go_enter Tryz.func210, Tryz.ntmps210
  go_wp2
  go_loop [3] (fun i => ∃ k : Nat, i = .int .i64 k ∧ k ≤ n ∧ Hid ((l.take k).all (· == 0) = true)) (fun i => n - (intOf i).toNat)
  case atStart => exact ⟨0, rfl, Nat.zero_le _, rfl⟩
  case round =>
    obtain ⟨k, rfl, hk, hr⟩ := hrel
    by_cases hlt : k < n
    · have cx := hg.at_ k (HC.out k (by omega))
      have hrest : (l[k]'(by omega) == 0) = false → R = false := fun hb => by
        rw [← HR.out, List.all_eq_false]
        exact ⟨l[k]'(by omega), by rw [List.mem_take_iff_getElem]; exact ⟨k, by omega, rfl⟩, by rw [hb]; decide⟩
      have hnext : (l[k]'(by omega) == 0) = true → Hid ((l.take (k + 1)).all (· == 0) = true) := fun hb => by
        show (l.take (k + 1)).all (· == 0) = true
        rw [List.take_succ_eq_append_getElem (by omega), List.all_append, hr.out]
        simpa using hb
      rw [u8_eq0] at hrest hnext
      have H1 := Lib.hid hrest
      have H2 := Lib.hid hnext
      clear hrest hnext hr
      generalize (l[k]'(by omega)).toNat = b at *
      cases hb : ((b : Int) == 0) with
      | true =>
        have h3 := H2.out hb
        have hb2 : ((b : Int) != 0) = false := by simp [bne, hb]
        clear H1 H2 HR
        go_wp2
        go_round
        case rel => exact ⟨k + 1, by go_num, by omega, h3⟩
        case measure => simp only [intOf]; omega
      | false =>
        have h3 := H1.out hb
        have hb2 : ((b : Int) != 0) = true := by simp [bne, hb]
        clear H1 H2 HR
        subst h3
        go_wp2
        go_ret
        exact ⟨rfl, rfl⟩
    · obtain rfl : k = n := by omega
      have hr1 := hr.out
      rw [HR.out] at hr1
      subst hr1
      clear hr HR
      go_wp2
      go_ret
      exact ⟨rfl, rfl⟩
theorem to4_4 (A : Option Addr) (c : Nat) (w : World) : Calls Tryz.prog 183 #[.slice A 4 c] w fun e w' => e = .returned (.slice A 4 c) ∧ w = w' := by
  go_enter Tryz.func183, Tryz.ntmps183
  go_wp2
  go_ret
  exact ⟨rfl, rfl⟩
set_option maxRecDepth 100000 in
theorem to4_16 (v : Value) (l : List UInt8) (w : World) (h : BSl w v l) (hl : l.length = 16) (hm : mapped l = false) : Calls Tryz.prog 183 #[v] w fun e w' => e = .returned (.slice none 0 0) ∧ w = w' := by
  obtain ⟨g, cap, cur, rfl, hg, hcap, hmax, hc⟩ := h
  have HZ := Lib.hid (fun c => isZeros_calls g 10 c cur l w hg (by omega) (by omega) hc)
  have c10 := hg.at_ 10 (hc 10 (by omega))
  have c11 := hg.at_ 11 (hc 11 (by omega))
  have e10 : l.getD 10 0 = l[10] := by simp [hl]
  have e11 : l.getD 11 0 = l[11] := by simp [hl]
  unfold mapped at hm
  rw [e10, e11] at hm
  have q : ∀ b : UInt8, (b == 255) = ((b.toNat : Int) == 255) := fun b => by
    rw [Bool.eq_iff_iff, beq_iff_eq, beq_iff_eq]
    exact ⟨fun h => by rw [h]; rfl, fun h => UInt8.toNat_inj.1 (by have := Int.ofNat.inj h; exact this)⟩
  rw [q, q] at hm
  have hcap2 : 16 ≤ cap := by omega
  have hg' := hg.lt
  unfold maxLen at hmax
  rw [hl]
  generalize (l.take 10).all (· == 0) = z at *
  generalize l[10].toNat = b10 at *
  generalize l[11].toNat = b11 at *
  clear hc q e10 e11 hg hcap
  cases z with
  | false =>
    clear hm
    go_enter Tryz.func183, Tryz.ntmps183
    go_wp2_with (fail)
    refine (HZ.out _).mono ?_
    rintro e w1 ⟨rfl, rfl⟩
    go_wp2
    go_ret
    exact ⟨rfl, rfl⟩
  | true =>
    rw [Bool.true_and] at hm
    cases h10 : ((b10 : Int) == 255) with
    | false =>
      clear hm
      go_enter Tryz.func183, Tryz.ntmps183
      go_wp2_with (fail)
      refine (HZ.out _).mono ?_
      rintro e w1 ⟨rfl, rfl⟩
      go_wp2
      go_ret
      exact ⟨rfl, rfl⟩
    | true =>
      rw [h10, Bool.true_and] at hm
      go_enter Tryz.func183, Tryz.ntmps183
      go_wp2_with (fail)
      refine (HZ.out _).mono ?_
      rintro e w1 ⟨rfl, rfl⟩
      go_wp2
      go_ret
      exact ⟨rfl, rfl⟩
/-- To4 at an address of which the statements speak: itself, or nil. -/
theorem to4_calls (v : Value) (l : List UInt8) (w : World) (h : BSl w v l) (ha : addrB l = true) : Calls Tryz.prog 183 #[v] w fun e w' => e = .returned (if l.length = 4 then v else .slice none 0 0) ∧ w = w' := by
  rcases addrB_len ha with h4 | h16
  · obtain ⟨g, cap, cur, rfl, _⟩ := h
    rw [if_pos h4, h4]
    exact to4_4 _ _ w
  · rw [if_neg (by omega)]
    exact to4_16 v l w h h16 (addrB_map ha h16)
theorem nil80_eq (a : Option Addr) (l c : Nat) (w : World) : (binOp .eql 80 (.slice a l c) (.slice none 0 0)).run Tryz.prog w = .ok (.bool a.isNone) w := by
  have h := run_equal_slice_nil (P := Tryz.prog) w 80 5 a l c Tryz.underlying80
  show ((do pure (Value.bool (← Op.equal 80 (.slice a l c) (.slice none 0 0)))) : Sem Value).run Tryz.prog w = _
  simp only [Sem.run_bind, h, Result.andThen, Sem.run_pure]
theorem nil80_ne (a : Option Addr) (l c : Nat) (w : World) : (binOp .neq 80 (.slice a l c) (.slice none 0 0)).run Tryz.prog w = .ok (.bool (!a.isNone)) w := by
  have h := run_equal_slice_nil (P := Tryz.prog) w 80 5 a l c Tryz.underlying80
  show ((do pure (Value.bool (!(← Op.equal 80 (.slice a l c) (.slice none 0 0))))) : Sem Value).run Tryz.prog w = _
  simp only [Sem.run_bind, h, Result.andThen, Sem.run_pure]
set_option maxRecDepth 100000 in
theorem netNumber_calls (N : Nat) (va vm : Value) (n : List UInt8 × List UInt8) (w : World) (hN : Blk w N 177 #[va, vm]) (h1 : BSl w va n.1) (h2 : BSl w vm n.2) (ha : addrB n.1 = true) (hl : n.2.length = n.1.length) :
    Calls Tryz.prog 182 #[.pointer (some ⟨N, 0, none⟩)] w fun e w' => e = .returned (.tuple #[va, vm]) ∧ w = w' := by
  have HT := Lib.hid (fun W (h : BSl W va n.1) => to4_calls va n.1 W h ha)
  have hnil := nil80_eq
  have HA := Lib.hid h1
  have c0 := hN.at_ 0 rfl
  have c1 := hN.at_ 1 rfl
  obtain ⟨gA, cA, curA, rfl, _, _⟩ := h1
  obtain ⟨gM, cM, curM, rfl, _, _⟩ := h2
  rw [hl] at c1 ⊢
  rcases addrB_len ha with h4 | h16
  · have ht := HT.out w HA.out
    rw [if_pos h4] at ht
    rw [h4] at ht c0 c1 ⊢
    have HT2 := Lib.hid ht
    clear ht HT HA hN hl ha h4
    go_enter Tryz.func182, Tryz.ntmps182
    go_wp2_with (fail)
    refine HT2.out.mono ?_
    rintro e w1 ⟨rfl, rfl⟩
    go_wp2
    go_ret2
    exact ⟨rfl, rfl⟩
  · have ht := HT.out w HA.out
    rw [if_neg (by omega)] at ht
    rw [h16] at ht c0 c1 ⊢
    have HT2 := Lib.hid ht
    clear ht HT HA hN hl ha h16
    go_enter Tryz.func182, Tryz.ntmps182
    go_wp2_with (fail)
    refine HT2.out.mono ?_
    rintro e w1 ⟨rfl, rfl⟩
    go_wp2
    go_ret2
    exact ⟨rfl, rfl⟩
end Go.Proofs.YtblabjfjhlablaaGreatDoor
/- The walks over networks: Contains, Mask, Equal, the comparison of networks. -/
namespace Go.Proofs.YtblabjfjhlablaaGreatDoor
open Go.RowKit Go.Sort Nc
theorem and8 (a b : UInt8) : bits .and .u8 (a.toNat : Int) (b.toNat : Int) = ((a &&& b).toNat : Int) := by
  rw [u8_and_nat _ _ a.toNat_lt b.toNat_lt, UInt8.toNat_and]
theorem u8_eqI (a b : UInt8) : (a == b) = ((a.toNat : Int) == (b.toNat : Int)) := by
  rw [Bool.eq_iff_iff, beq_iff_eq, beq_iff_eq]
  exact ⟨fun h => by rw [h], fun h => UInt8.toNat_inj.1 (by omega)⟩
/-- What a network's test says of one place. -/
def hitAt (A M S : List UInt8) (j : Nat) : Bool := (A.getD j 0 &&& M.getD j 0) == (S.getD j 0 &&& M.getD j 0)
theorem inN_hits {A M S : List UInt8} (h1 : A.length = M.length) (h2 : A.length = S.length) : inN A M S = true ↔ ∀ j, j < A.length → hitAt A M S j = true := by
  rw [inN_iff A M S h1 h2]
  unfold hitAt
  constructor
  · intro h j hj
    have := h j hj (by omega) (by omega)
    simp [hj, show j < M.length by omega, show j < S.length by omega, this]
  · intro h j hj hk hl
    have := h j hj
    simpa [hj, hk, hl] using this
set_option maxRecDepth 100000 in
set_option maxHeartbeats 1000000 in
theorem contains_calls (x : Nat × (List UInt8 × List UInt8)) (vs : Value) (s : List UInt8) (w : World) (hx : NetAt w x) (ok : NetOk x.2) (hs : BSl w vs s) (ha : addrB s = true) :
    Calls Tryz.prog 159 #[.pointer (some ⟨x.1, 0, none⟩), vs] w fun e w' => e = .returned (.bool (inN x.2.1 x.2.2 s)) ∧ ∃ q, w.drewN q = w' := by
  obtain ⟨N, A, M⟩ := x
  obtain ⟨va, vm, hN, h1, h2⟩ := hx
  have hlen := ok.len
  have hN1 := Lib.hid (netNumber_calls N va vm (A, M) w hN h1 h2 ok.addr hlen)
  have hT := Lib.hid (to4_calls vs s w hs ha)
  obtain ⟨gA, cA, curA, rfl, hgA, kA, mA, hcA⟩ := h1
  obtain ⟨gM, cM, curM, rfl, hgM, kM, mM, hcM⟩ := h2
  obtain ⟨gS, cS, curS, rfl, hgS, kS, mS, hcS⟩ := hs
  simp only at *
  have hal := addrB_len ok.addr
  have hsl := addrB_len ha
  have hnil := nil80_ne
  simp only at hal
  rw [hlen] at hN1
  by_cases hne : A.length = s.length
  case neg =>
    rw [inN_ne hne]
    clear hcA hcM hcS hgA hgM hgS ok hN hlen ha
    rcases hal with ha | ha
    · rcases hsl with hs | hs
      · omega
      · rw [if_neg (by omega), hs] at hT
        rw [ha] at hN1
        rw [hs]
        clear hne ha hs kA kM kS mA mM mS
        go_enter Tryz.func159, Tryz.ntmps159
        go_wp2_with (fail)
        refine hN1.out.mono ?_
        rintro e w1 ⟨rfl, rfl⟩
        go_wp2_with (fail)
        refine hT.out.mono ?_
        rintro e w1 ⟨rfl, rfl⟩
        go_wp2
        go_ret
        exact ⟨rfl, 0, rfl⟩
    · rcases hsl with hs | hs
      · rw [if_pos hs, hs] at hT
        rw [ha] at hN1
        rw [hs]
        clear hne ha hs kA kM kS mA mM mS
        go_enter Tryz.func159, Tryz.ntmps159
        go_wp2_with (fail)
        refine hN1.out.mono ?_
        rintro e w1 ⟨rfl, rfl⟩
        go_wp2_with (fail)
        refine hT.out.mono ?_
        rintro e w1 ⟨rfl, rfl⟩
        go_wp2
        go_ret
        exact ⟨rfl, 0, rfl⟩
      · omega
  case pos =>
    have hH := inN_hits (A := A) (M := M) (S := s) hlen.symm hne
    have hhit : ∀ j (h1 : j < A.length) (h2 : j < M.length) (h3 : j < s.length), hitAt A M s j = (((A[j] &&& M[j]).toNat : Int) == ((s[j] &&& M[j]).toNat : Int)) := fun j h1 h2 h3 => by
      unfold hitAt
      rw [← u8_eqI]
      simp [h1, h2, h3]
    generalize inN A M s = R at *
    have HH := Lib.hid hH
    have HI := Lib.hid hhit
    have HA := Lib.hid hcA
    have HM := Lib.hid hcM
    have HS := Lib.hid hcS
    clear hH hhit hcA hcM hcS ok hN ha
    rcases hsl with hs | hs
    · rw [if_pos hs, hs] at hT
      have ha : A.length = 4 := by omega
      have a1 : 4 ≤ A.length := by omega
      have a2 : A.length ≤ 4 := by omega
      have m1 : 4 ≤ M.length := by omega
      have s1 : 4 ≤ s.length := by omega
      rw [ha] at hN1
      rw [hs]
      clear hne ha hs hal hlen
      go_enter Tryz.func159, Tryz.ntmps159
      go_wp2_with (fail)
      refine hN1.out.mono ?_
      rintro e w1 ⟨rfl, rfl⟩
      go_wp2_with (fail)
      refine hT.out.mono ?_
      rintro e w1 ⟨rfl, rfl⟩
      go_wp2
      clear hN1 hT hnil
      go_loopw [9] (fun i wr => ∃ k q : Nat, i = .int .i64 k ∧ k ≤ 4 ∧ w.drewN q = wr ∧ Hid (∀ j, j < k → hitAt A M s j = true)) (fun i _ => 4 - (intOf i).toNat)
      case atStart => exact ⟨0, 0, rfl, Nat.zero_le _, rfl, fun j hj => absurd hj (Nat.not_lt_zero _)⟩
      case round =>
        obtain ⟨k, q, rfl, hk, rfl, hr⟩ := hrel
        by_cases hlt : k < 4
        · have cA1 := hgA.at_ k (HA.out k (by omega))
          have cM1 := hgM.at_ k (HM.out k (by omega))
          have cS1 := hgS.at_ k (HS.out k (by omega))
          have hit := HI.out k (by omega) (by omega) (by omega)
          have e1 := and8 (A[k]'(by omega)) (M[k]'(by omega))
          have e2 := and8 (s[k]'(by omega)) (M[k]'(by omega))
          have hnx : hitAt A M s k = true → Hid (∀ j, j < k + 1 → hitAt A M s j = true) := fun h j hj => by
            rcases Nat.lt_or_eq_of_le (Nat.le_of_lt_succ hj) with h1 | h1
            · exact hr.out j h1
            · subst h1; exact h
          have hbd : hitAt A M s k = false → R = false := fun h => by
            cases R with
            | false => rfl
            | true =>
              have := HH.out.1 rfl k (by omega)
              rw [h] at this
              cases this
          have HX := Lib.hid hnx
          have HB := Lib.hid hbd
          clear hnx hbd hr
          generalize (A[k]'(by omega)).toNat = xa at *
          generalize (M[k]'(by omega)).toNat = xm at *
          generalize (s[k]'(by omega)).toNat = xs at *
          generalize (A[k]'(by omega) &&& M[k]'(by omega)).toNat = y1 at *
          generalize (s[k]'(by omega) &&& M[k]'(by omega)).toNat = y2 at *
          cases hq : ((y1 : Int) == (y2 : Int)) with
          | true =>
            rw [hq] at hit
            have hq2 : ((y1 : Int) != (y2 : Int)) = false := by simp [bne, hq]
            have hn2 := HX.out hit
            clear HX HB hit
            go_wp2
            go_region
            go_wp2
            go_roundw
            case rel => exact ⟨k + 1, q + 1, by go_num, by omega, rfl, hn2⟩
            case measure => simp only [intOf]; omega
          | false =>
            rw [hq] at hit
            have hq2 : ((y1 : Int) != (y2 : Int)) = true := by simp [bne, hq]
            have hv := HB.out hit
            clear HX HB hit HH
            subst hv
            go_wp2
            go_region
            go_wp2
            go_ret
            exact ⟨rfl, q + 1, rfl⟩
        · obtain rfl : k = 4 := by omega
          have hv : R = true := HH.out.2 (fun j hj => hr.out j (by omega))
          clear hr HH
          subst hv
          go_wp2
          go_ret
          exact ⟨rfl, q, rfl⟩
    · rw [if_neg (by omega), hs] at hT
      have ha : A.length = 16 := by omega
      have a1 : 16 ≤ A.length := by omega
      have a2 : A.length ≤ 16 := by omega
      have m1 : 16 ≤ M.length := by omega
      have s1 : 16 ≤ s.length := by omega
      rw [ha] at hN1
      rw [hs]
      clear hne ha hs hal hlen
      go_enter Tryz.func159, Tryz.ntmps159
      go_wp2_with (fail)
      refine hN1.out.mono ?_
      rintro e w1 ⟨rfl, rfl⟩
      go_wp2_with (fail)
      refine hT.out.mono ?_
      rintro e w1 ⟨rfl, rfl⟩
      go_wp2
      clear hN1 hT hnil
      go_loopw [9] (fun i wr => ∃ k q : Nat, i = .int .i64 k ∧ k ≤ 16 ∧ w.drewN q = wr ∧ Hid (∀ j, j < k → hitAt A M s j = true)) (fun i _ => 16 - (intOf i).toNat)
      case atStart => exact ⟨0, 0, rfl, Nat.zero_le _, rfl, fun j hj => absurd hj (Nat.not_lt_zero _)⟩
      case round =>
        obtain ⟨k, q, rfl, hk, rfl, hr⟩ := hrel
        by_cases hlt : k < 16
        · have cA1 := hgA.at_ k (HA.out k (by omega))
          have cM1 := hgM.at_ k (HM.out k (by omega))
          have cS1 := hgS.at_ k (HS.out k (by omega))
          have hit := HI.out k (by omega) (by omega) (by omega)
          have e1 := and8 (A[k]'(by omega)) (M[k]'(by omega))
          have e2 := and8 (s[k]'(by omega)) (M[k]'(by omega))
          have hnx : hitAt A M s k = true → Hid (∀ j, j < k + 1 → hitAt A M s j = true) := fun h j hj => by
            rcases Nat.lt_or_eq_of_le (Nat.le_of_lt_succ hj) with h1 | h1
            · exact hr.out j h1
            · subst h1; exact h
          have hbd : hitAt A M s k = false → R = false := fun h => by
            cases R with
            | false => rfl
            | true =>
              have := HH.out.1 rfl k (by omega)
              rw [h] at this
              cases this
          have HX := Lib.hid hnx
          have HB := Lib.hid hbd
          clear hnx hbd hr
          generalize (A[k]'(by omega)).toNat = xa at *
          generalize (M[k]'(by omega)).toNat = xm at *
          generalize (s[k]'(by omega)).toNat = xs at *
          generalize (A[k]'(by omega) &&& M[k]'(by omega)).toNat = y1 at *
          generalize (s[k]'(by omega) &&& M[k]'(by omega)).toNat = y2 at *
          cases hq : ((y1 : Int) == (y2 : Int)) with
          | true =>
            rw [hq] at hit
            have hq2 : ((y1 : Int) != (y2 : Int)) = false := by simp [bne, hq]
            have hn2 := HX.out hit
            clear HX HB hit
            go_wp2
            go_region
            go_wp2
            go_roundw
            case rel => exact ⟨k + 1, q + 1, by go_num, by omega, rfl, hn2⟩
            case measure => simp only [intOf]; omega
          | false =>
            rw [hq] at hit
            have hq2 : ((y1 : Int) != (y2 : Int)) = true := by simp [bne, hq]
            have hv := HB.out hit
            clear HX HB hit HH
            subst hv
            go_wp2
            go_region
            go_wp2
            go_ret
            exact ⟨rfl, q + 1, rfl⟩
        · obtain rfl : k = 16 := by omega
          have hv : R = true := HH.out.2 (fun j hj => hr.out j (by omega))
          clear hr HH
          subst hv
          go_wp2
          go_ret
          exact ⟨rfl, q, rfl⟩
end Go.Proofs.YtblabjfjhlablaaGreatDoor
/- The walks of Mask and Equal; how networks compare. -/
namespace Go.Proofs.YtblabjfjhlablaaGreatDoor
open Go.RowKit Go.Sort Nc
theorem u8_zero_info : (Tryz.prog.info? 5).map (fun i => (i.zero, i.size, i.bytes)) = some (some (.int .u8 0), 1, 1) := by kernel_rfl
theorem made_size (z : Value) (n : Nat) : (madeCells #[z] n).size = n := by simp [madeCells]
/-- Bytes that are made: the first k are there. -/
def Filling (w : World) (g n k : Nat) (f : Nat → UInt8) : Prop := ∃ cur : Array Value, Blk w g 5 cur ∧ cur.size = n ∧ ∀ j, j < k → cur[j]? = some (.int .u8 ((f j).toNat : Int))
theorem Filling.step {w : World} {g n k : Nat} {f : Nat → UInt8} (h : Filling w g n k f) (hk : k < n) : Filling (w.setCell ⟨g, k, none⟩ (.int .u8 ((f k).toNat : Int))) g n (k + 1) f := by
  obtain ⟨cur, h1, h2, h3⟩ := h
  refine ⟨_, h1.set_ k _, by simp [h2], fun j hj => ?_⟩
  rw [Array.getElem?_setIfInBounds]
  by_cases e : k = j
  · subst e; rw [if_pos rfl, if_pos (by omega)]
  · rw [if_neg e]; exact h3 j (by omega)
theorem Filling.all {w : World} {g n : Nat} {f : Nat → UInt8} (h : Filling w g n n f) (l : List UInt8) (hl : l.length = n) (hf : ∀ j (h : j < l.length), l[j] = f j) (hm : n ≤ maxLen) : BSl w (.slice (some ⟨g, 0, none⟩) n n) l := by
  obtain ⟨cur, h1, h2, h3⟩ := h
  subst hl
  exact ⟨g, _, cur, rfl, h1, Nat.le_refl _, hm, fun j hj => by rw [h3 j hj, hf j hj]⟩
/-- A slice of bytes of the call's own. -/
def NewBytes (l : List UInt8) (w : World) (e : Ending) (w' : World) : Prop := ∃ v, e = .returned v ∧ BSl w' v l ∧ Below w.heap.size w w'
theorem mk4 (w : World) : (Instr.makeSlice 80 (.int .i64 4) (.int .i64 4)).run Tryz.prog w = .ok (.slice (some ⟨w.heap.size, 0, none⟩) 4 4) (w.alloc (.cells (madeCells #[.int .u8 0] 4) 5)) :=
  run_make_row' 80 5 (.int .u8 0) 1 Tryz.underlying80 u8_zero_info rfl .i64 .i64 4 (by omega) (by omega) w
theorem mk16 (w : World) : (Instr.makeSlice 80 (.int .i64 16) (.int .i64 16)).run Tryz.prog w = .ok (.slice (some ⟨w.heap.size, 0, none⟩) 16 16) (w.alloc (.cells (madeCells #[.int .u8 0] 16) 5)) :=
  run_make_row' 80 5 (.int .u8 0) 1 Tryz.underlying80 u8_zero_info rfl .i64 .i64 16 (by omega) (by omega) w
set_option maxRecDepth 100000 in
set_option maxHeartbeats 1000000 in
theorem mask_calls (va vm : Value) (A M : List UInt8) (w : World) (h1 : BSl w va A) (h2 : BSl w vm M) (hl : M.length = A.length) (hA : A.length = 4 ∨ A.length = 16) :
    Calls Tryz.prog 125 #[va, vm] w (NewBytes (List.zipWith (· &&& ·) A M) w) := by
  obtain ⟨i0, hi0, hz0, hz1, hz2⟩ := info_parts u8_zero_info
  obtain ⟨gA, cA, curA, rfl, hgA, kA, mA, hcA⟩ := h1
  obtain ⟨gM, cM, curM, rfl, hgM, kM, mM, hcM⟩ := h2
  have HA := Lib.hid hcA
  have HM := Lib.hid hcM
  have HL := Lib.hid hl
  rw [hl]
  clear hcA hcM
  have hzl : (List.zipWith (· &&& ·) A M).length = A.length := by rw [List.length_zipWith]; omega
  have hzf : ∀ j (h : j < (List.zipWith (· &&& ·) A M).length), (List.zipWith (· &&& ·) A M)[j] = (fun j => A.getD j 0 &&& M.getD j 0) j := fun j hj => by
    have h1 : j < A.length := by omega
    have h2 : j < M.length := by omega
    simp [h1, h2]
  have HF := Lib.hid (fun (W : World) (g : Nat) (h : Filling W g A.length A.length (fun j => A.getD j 0 &&& M.getD j 0)) (hm : A.length ≤ maxLen) => Filling.all h _ hzl hzf hm)
  generalize List.zipWith (· &&& ·) A M = Z at *
  clear hzl hzf
  rcases hA with hA | hA
  · have a1 : 4 ≤ A.length := by omega
    have m1 : 4 ≤ M.length := by omega
    rw [hA] at HF ⊢
    have hmk := mk4
    clear hA hl HL kA kM mA mM
    go_enter Tryz.func125, Tryz.ntmps125
    go_wp2
    go_quiet (fail)
    have hb1 : Below w.heap.size w ((w.drewN nq).alloc (.cells (madeCells #[.int .u8 0] 4) 5)) := (below_drewN (Below.refl _ _) nq).alloc (Nat.le_refl _) _
    have hf1 : Filling ((w.drewN nq).alloc (.cells (madeCells #[.int .u8 0] 4) 5)) w.heap.size 4 0 (fun j => A.getD j 0 &&& M.getD j 0) := ⟨_, Blk.new (w.drewN nq) 5 _, made_size _ _, fun j hj => absurd hj (Nat.not_lt_zero _)⟩
    have HB1 := Lib.hid hb1
    have HF1 := Lib.hid hf1
    clear hb1 hf1
    go_wp2
    clear hmk
    go_loopw [7] (fun i wr => ∃ k : Nat, i = .int .i64 k ∧ k ≤ 4 ∧ Below w.heap.size w wr ∧ Hid (Filling wr w.heap.size 4 k (fun j => A.getD j 0 &&& M.getD j 0))) (fun i _ => 4 - (intOf i).toNat)
    case atStart => exact ⟨0, rfl, Nat.zero_le _, HB1.out, HF1.out⟩
    case round =>
      obtain ⟨k, rfl, hk, hbr, hfill⟩ := hrel
      clear HB1 HF1
      by_cases hlt : k < 4
      · have cA1 := (hgA.later hbr).at_ k (HA.out k (by omega))
        have cM1 := (hgM.later hbr).at_ k (HM.out k (by omega))
        have hst : Filling (wr.setCell ⟨w.heap.size, k, none⟩ (.int .u8 ((A.getD k 0 &&& M.getD k 0).toNat : Int))) w.heap.size 4 (k + 1) (fun j => A.getD j 0 &&& M.getD j 0) := hfill.out.step hlt
        obtain ⟨cur, hcur, hsz, _⟩ := hfill.out
        obtain ⟨v1, n3⟩ : ∃ v1, wr.cell? ⟨w.heap.size, k, none⟩ = some v1 := by
          rw [hcur.cell]
          exact ⟨_, Array.getElem?_eq_getElem (by omega)⟩
        have hfz := hcur.frozen k
        have e1 := and8 (A[k]'(by omega)) (M[k]'(by omega))
        have e2 : (A.getD k 0 &&& M.getD k 0) = (A[k]'(by omega) &&& M[k]'(by omega)) := by
          simp [show k < A.length by omega, show k < M.length by omega]
        rw [e2] at hst
        have HS := Lib.hid hst
        clear hst e2 hcur hsz hfill
        generalize (A[k]'(by omega)).toNat = xa at *
        generalize (M[k]'(by omega)).toNat = xm at *
        generalize (A[k]'(by omega) &&& M[k]'(by omega)).toNat = y1 at *
        go_wp2
        go_region
        go_wp2
        go_roundw
        case rel => exact ⟨k + 1, by go_num, by omega, Below.setCell hbr.drew (Nat.le_refl _) _, HS.out⟩
        case measure => simp only [intOf]; omega
      · obtain rfl : k = 4 := by omega
        have HZ := Lib.hid (HF.out _ _ hfill.out (by unfold maxLen; omega))
        clear hfill HF
        go_wp2
        go_ret
        exact ⟨_, rfl, HZ.out, hbr⟩
  · have a1 : 16 ≤ A.length := by omega
    have m1 : 16 ≤ M.length := by omega
    rw [hA] at HF ⊢
    have hmk := mk16
    clear hA hl HL kA kM mA mM
    go_enter Tryz.func125, Tryz.ntmps125
    go_wp2
    go_quiet (fail)
    have hb1 : Below w.heap.size w ((w.drewN nq).alloc (.cells (madeCells #[.int .u8 0] 16) 5)) := (below_drewN (Below.refl _ _) nq).alloc (Nat.le_refl _) _
    have hf1 : Filling ((w.drewN nq).alloc (.cells (madeCells #[.int .u8 0] 16) 5)) w.heap.size 16 0 (fun j => A.getD j 0 &&& M.getD j 0) := ⟨_, Blk.new (w.drewN nq) 5 _, made_size _ _, fun j hj => absurd hj (Nat.not_lt_zero _)⟩
    have HB1 := Lib.hid hb1
    have HF1 := Lib.hid hf1
    clear hb1 hf1
    go_wp2
    clear hmk
    go_loopw [7] (fun i wr => ∃ k : Nat, i = .int .i64 k ∧ k ≤ 16 ∧ Below w.heap.size w wr ∧ Hid (Filling wr w.heap.size 16 k (fun j => A.getD j 0 &&& M.getD j 0))) (fun i _ => 16 - (intOf i).toNat)
    case atStart => exact ⟨0, rfl, Nat.zero_le _, HB1.out, HF1.out⟩
    case round =>
      obtain ⟨k, rfl, hk, hbr, hfill⟩ := hrel
      clear HB1 HF1
      by_cases hlt : k < 16
      · have cA1 := (hgA.later hbr).at_ k (HA.out k (by omega))
        have cM1 := (hgM.later hbr).at_ k (HM.out k (by omega))
        have hst : Filling (wr.setCell ⟨w.heap.size, k, none⟩ (.int .u8 ((A.getD k 0 &&& M.getD k 0).toNat : Int))) w.heap.size 16 (k + 1) (fun j => A.getD j 0 &&& M.getD j 0) := hfill.out.step hlt
        obtain ⟨cur, hcur, hsz, _⟩ := hfill.out
        obtain ⟨v1, n3⟩ : ∃ v1, wr.cell? ⟨w.heap.size, k, none⟩ = some v1 := by
          rw [hcur.cell]
          exact ⟨_, Array.getElem?_eq_getElem (by omega)⟩
        have hfz := hcur.frozen k
        have e1 := and8 (A[k]'(by omega)) (M[k]'(by omega))
        have e2 : (A.getD k 0 &&& M.getD k 0) = (A[k]'(by omega) &&& M[k]'(by omega)) := by
          simp [show k < A.length by omega, show k < M.length by omega]
        rw [e2] at hst
        have HS := Lib.hid hst
        clear hst e2 hcur hsz hfill
        generalize (A[k]'(by omega)).toNat = xa at *
        generalize (M[k]'(by omega)).toNat = xm at *
        generalize (A[k]'(by omega) &&& M[k]'(by omega)).toNat = y1 at *
        go_wp2
        go_region
        go_wp2
        go_roundw
        case rel => exact ⟨k + 1, by go_num, by omega, Below.setCell hbr.drew (Nat.le_refl _) _, HS.out⟩
        case measure => simp only [intOf]; omega
      · obtain rfl : k = 16 := by omega
        have HZ := Lib.hid (HF.out _ _ hfill.out (by unfold maxLen; omega))
        clear hfill HF
        go_wp2
        go_ret
        exact ⟨_, rfl, HZ.out, hbr⟩
/-- Equal at two of one length. -/
theorem equal_calls (va vb : Value) (a b : List UInt8) (w : World) (h1 : BSl w va a) (h2 : BSl w vb b) (hl : a.length = b.length) : Calls Tryz.prog 126 #[va, vb] w fun e w' => e = .returned (.bool (a == b)) ∧ w = w' := by
  obtain ⟨gA, cA, curA, rfl, hgA, kA, mA, hcA⟩ := h1
  obtain ⟨gB, cB, curB, rfl, hgB, kB, mB, hcB⟩ := h2
  have hin : ∀ (g : Nat) (cur : Array Value) (l : List UInt8), Blk w g 5 cur → (∀ j (h : j < l.length), cur[j]? = some (.int .u8 (l[j].toNat : Int))) → Lib.BytesIn w (some ⟨g, 0, none⟩) l.length (l.map fun b => (b.toNat : Int)) := fun g cur l hg hc _ => ⟨g, 0, rfl, fun i hi => by
    rw [Nat.zero_add, hg.at_ i (hc i hi)]
    simp [hi]⟩
  have he := Tryz.bytes_Equal_all (some ⟨gA, 0, none⟩) (some ⟨gB, 0, none⟩) a.length cA b.length cB (a.map fun b => (b.toNat : Int)) (b.map fun b => (b.toNat : Int)) w (by simp) (by simp) (hin gA curA a hgA hcA) (hin gB curB b hgB hcB)
  rw [bytes_back, bytes_back] at he
  have hd : ((a.length : Int) == (b.length : Int)) = true := ib_eq (by omega)
  have HE := Lib.hid he
  generalize (a == b) = R at *
  clear he hin hcA hcB hl
  go_enter Tryz.func126, Tryz.ntmps126
  go_wp2_with (fail)
  refine HE.out.mono ?_
  rintro e w1 ⟨rfl, rfl⟩
  go_wp2
  go_ret
  exact ⟨rfl, rfl⟩
end Go.Proofs.YtblabjfjhlablaaGreatDoor
/- Networks as constraints: how they compare; they are laminar; the walk of ipNetworkSubset. -/
namespace Go.Proofs.YtblabjfjhlablaaGreatDoor
open Go.RowKit Go.Sort Nc
abbrev NetX := Nat × (List UInt8 × List UInt8)
/-- A network of one length, in memory. -/
abbrev NetW (w : World) (L : Nat) := { x : NetX // NetAt w x ∧ NetOk x.2 ∧ x.2.1.length = L }
def encX (x : NetX) : Value := .pointer (some ⟨x.1, 0, none⟩)
def cmpX (x y : NetX) : Int := cmp2 x.2.1 x.2.2 y.2.1 y.2.2
def subX (x y : NetX) : Bool := sub2 x.2.1 x.2.2 y.2.1 y.2.2
section
variable {w : World} {L : Nat}
def encP (x : NetW w L) : Value := encX x.val
def cmpP (x y : NetW w L) : Int := cmpX x.val y.val
def subP (x y : NetW w L) : Bool := subX x.val y.val
theorem netGood (x : NetW w L) : GoodN L x.val.2.1 x.val.2.2 := by
  have h := x.property.2.1.good
  rw [x.property.2.2] at h
  exact h
theorem netLam : Laminar (β := { s : List UInt8 // s.length = L }) (cmpP (w := w) (L := L)) subP (fun x s => cmpL x.val.2.1 s.1) (fun x s => inN x.val.2.1 x.val.2.2 s.1) :=
  netLaminar L (fun x : NetW w L => x.val.2.1) (fun x => x.val.2.2) netGood
theorem ltP_true {x y : NetW w L} : ltOf cmpP x y = true ↔ cmpX x.val y.val < 0 := ⟨fun h => of_decide_eq_true h, fun h => decide_eq_true h⟩
theorem ltP_false {x y : NetW w L} : ltOf cmpP x y = false ↔ ¬ cmpX x.val y.val < 0 := ⟨fun h => of_decide_eq_false h, fun h => decide_eq_false h⟩
theorem cmpX_swap (x y : NetX) : cmpX y x = - cmpX x y := cmp2_swap _ _ _ _
theorem cmpX_trans {x y z : NetX} (h1 : cmpX x y ≤ 0) (h2 : cmpX y z ≤ 0) : cmpX x z ≤ 0 := cmp2_trans _ _ _ _ _ _ h1 h2
theorem netSWO : SWO (ltOf (cmpP (w := w) (L := L))) where
  irrefl x := ltP_false.2 (by have := cmpX_swap x.val x.val; omega)
  trans x y z h1 h2 := by
    rw [ltP_true] at *
    have h := cmpX_trans (x := x.val) (y := y.val) (z := z.val) (by omega) (by omega)
    rcases Int.lt_or_eq_of_le h with h3 | h3
    · exact h3
    · obtain ⟨e1, e2⟩ := cmp2_eq h3
      have e3 : cmpX y.val z.val = cmpX y.val x.val := by unfold cmpX; rw [e1, e2]
      have := cmpX_swap x.val y.val
      omega
  ntrans x y z h1 h2 := by
    rw [ltP_false] at *
    have a1 := cmpX_swap x.val y.val
    have a2 := cmpX_swap y.val z.val
    have a3 := cmpX_swap x.val z.val
    have h := cmpX_trans (x := z.val) (y := y.val) (z := x.val) (by omega) (by omega)
    omega
end
theorem byt_quiet {A B : Option Addr} {a b : List UInt8} (c d : Nat) (w : World) (ha : Byt w A a) (hb : Byt w B b) (n : Nat) :
    Calls Tryz.prog 158 #[.slice A a.length c, .slice B b.length d] (w.drewN n) fun e w'' => e = .returned (.int .i64 (cmpL a b)) ∧ ∃ m, w'' = w.drewN m :=
  (bytesCompare_calls (w := w.drewN n) ha hb c d).mono fun _ _ ⟨he, hw⟩ => ⟨he, n, hw.symm⟩
set_option maxRecDepth 100000 in
set_option maxHeartbeats 1000000 in
/-- ipNetworkCompare. -/
theorem netCmp_calls (x y : NetX) (w : World) (hx : NetAt w x) (hy : NetAt w y) :
    Calls Tryz.prog 128 #[encX x, encX y] w fun e w' => e = .returned (.int .i64 (cmpX x y)) ∧ ∃ n, w.drewN n = w' := by
  obtain ⟨N1, A, M⟩ := x
  obtain ⟨N2, B, N⟩ := y
  obtain ⟨va, vm, h1, h2, h3⟩ := hx
  obtain ⟨vb, vn, k1, k2, k3⟩ := hy
  obtain ⟨pA, cA, rfl, hA⟩ := h2.byt
  obtain ⟨pM, cM, rfl, hM⟩ := h3.byt
  obtain ⟨pB, cB, rfl, hB⟩ := k2.byt
  obtain ⟨pN, cN, rfl, hN⟩ := k3.byt
  simp only at *
  have HQ1 := Lib.hid (fun n => byt_quiet cA cB w hA hB n)
  have HQ2 := Lib.hid (fun m n => byt_quiet cM cN (w.drewN m) hM hN n)
  have c0 := h1.at_ 0 rfl
  have c1 := h1.at_ 1 rfl
  have d0 := k1.at_ 0 rfl
  have d1 := k1.at_ 1 rfl
  have hR : cmpX (N1, A, M) (N2, B, N) = if cmpL A B = 0 then cmpL M N else cmpL A B := rfl
  generalize cmpX (N1, A, M) (N2, B, N) = R at *
  unfold encX
  clear h1 h2 h3 k1 k2 k3 hA hM hB hN
  generalize cmpL A B = r1 at *
  generalize cmpL M N = r2 at *
  by_cases hz : r1 = 0
  · rw [if_pos hz] at hR
    subst hz
    subst hR
    go_enter Tryz.func128, Tryz.ntmps128
    go_wp2
    go_quiet ((go_at_call 158; exact HQ1.out _))
    have HQ3 := Lib.hid (HQ2.out nq)
    have c2 : (w.drewN nq).cell? ⟨N1, 1, none⟩ = _ := c1
    have d2 : (w.drewN nq).cell? ⟨N2, 1, none⟩ = _ := d1
    have hW : ∃ n, w.drewN n = w.drewN nq := ⟨nq, rfl⟩
    have HW := Lib.hid hW
    clear HQ1 HQ2 c0 c1 d0 d1 hW
    generalize w.drewN nq = W at *
    go_wp2
    go_quiet ((go_at_call 158; exact HQ3.out _))
    go_wp2
    go_ret
    obtain ⟨n, rfl⟩ := HW.out
    exact ⟨rfl, _, (World.drewN_drewN _ _ _).symm⟩
  · rw [if_neg hz] at hR
    subst hR
    have hz1 : (R == 0) = false := ib_ne hz
    have hz2 : (R != 0) = true := by simp [bne, hz1]
    clear hz
    go_enter Tryz.func128, Tryz.ntmps128
    go_wp2
    go_quiet ((go_at_call 158; exact HQ1.out _))
    go_wp2
    go_ret
    exact ⟨rfl, _, rfl⟩
theorem eg128 : ∀ args w, (callFunc 128 args).run Tryz.prog w = .ok (.enter 128 args) w := enters_of Tryz.func128 (by kernel_rfl) rfl
theorem eg253 : ∀ args w, (callFunc 253 args).run Tryz.prog w = .ok (.enter 253 args) w := enters_of Tryz.func253 (by kernel_rfl) rfl
theorem netCmpLays {w : World} {L g : Nat} [Inhabited (NetW w L)] {cur : Array Value} (hg : Blk w g 121 cur) (size : Nat) : CmpLays1 Tryz.prog 128 #[] (encP (w := w) (L := L)) cmpP g 0 size w := by
  intro m os dk _ x y
  have hc : Carry [5, 177] w (sortWorld encP w g 0 m dk os) := Carry.only (sortWorld_only _ _ _ _ _ _) hg (by decide)
  refine (netCmp_calls x.val y.val _ (x.property.1.carry hc (by simp) (by simp)) (y.property.1.carry hc (by simp) (by simp))).mono ?_
  rintro e w' ⟨rfl, n, rfl⟩
  exact ⟨rfl, n, #[], by rw [grow_empty]⟩
end Go.Proofs.YtblabjfjhlablaaGreatDoor
/- The walks of ipNetworkSubset and of sortAndPrune over networks. -/
namespace Go.Proofs.YtblabjfjhlablaaGreatDoor
open Go.RowKit Go.Sort Nc
theorem orx8 (a b : UInt8) : bits .or .u8 (a.toNat : Int) (bits .xor .u8 255 (b.toNat : Int)) = ((a ||| ~~~b).toNat : Int) := by
  have h1 : bits .xor .u8 255 (b.toNat : Int) = ((~~~b).toNat : Int) := by
    have := u8_xor_nat 255 b.toNat (by decide) b.toNat_lt
    have e : ((255 : Nat) : Int) = 255 := rfl
    rw [e] at this
    rw [this]
    congr 1
  rw [h1, u8_or_nat _ _ a.toNat_lt (~~~b).toNat_lt, UInt8.toNat_or]
theorem orx8' (a b : UInt8) : bits .or .u8 (a.toNat : Int) (bits .xor .u8 (if IntKind.u8.signed = true then -1 else IntKind.u8.max) (b.toNat : Int)) = ((a ||| ~~~b).toNat : Int) := orx8 a b
set_option maxRecDepth 100000 in
set_option maxHeartbeats 1000000 in
theorem netSub_calls (x y : NetX) (w : World) (hx : NetAt w x) (hy : NetAt w y) (kx : NetOk x.2) (ky : NetOk y.2) :
    Calls Tryz.prog 129 #[encX x, encX y] w fun e w' => e = .returned (.bool (subX x y)) ∧ Below w.heap.size w w' := by
  obtain ⟨i0, hi0, hz0, hz1, hz2⟩ := info_parts u8_zero_info
  obtain ⟨N2, B, N⟩ := y
  obtain ⟨vb, vn, k1, k2, k3⟩ := hy
  have hlen := ky.len
  have hbl := addrB_len ky.addr
  have hlast := ky.last
  simp only at *
  have hC1 := Lib.hid (contains_calls x vb B w hx kx k2 ky.addr)
  have hC2 := Lib.hid (fun (W : World) (hW : Below w.heap.size w W) (v : Value) (hv : BSl W v (bcast B N)) => contains_calls x v (bcast B N) W (hx.later hW) kx hv hlast)
  have hzl := bcast_len hlen
  have hzf : ∀ j (h : j < (bcast B N).length), (bcast B N)[j] = (fun j => B.getD j 0 ||| ~~~ N.getD j 0) j := fun j hj => by
    have h1 : j < B.length := by omega
    have h2 : j < N.length := by omega
    simp [bcast, h1, h2]
  have HF := Lib.hid (fun (W : World) (g : Nat) (h : Filling W g B.length B.length (fun j => B.getD j 0 ||| ~~~ N.getD j 0)) (hm : B.length ≤ maxLen) => Filling.all h _ hzl hzf hm)
  have hR : subX x (N2, B, N) = (inN x.2.1 x.2.2 B && inN x.2.1 x.2.2 (bcast B N)) := rfl
  generalize subX x (N2, B, N) = R at *
  generalize inN x.2.1 x.2.2 B = r1 at *
  generalize inN x.2.1 x.2.2 (bcast B N) = r2 at *
  generalize bcast B N = Z at *
  obtain ⟨gB, cB, curB, rfl, hgB, kB, mB, hcB⟩ := k2
  obtain ⟨gN, cN, curN, rfl, hgN, kN, mN, hcN⟩ := k3
  rw [hlen] at k1
  have hB0 : B.length ≤ 16 := by omega
  have hNl : B.length ≤ N.length := by omega
  have HB := Lib.hid hcB
  have HN := Lib.hid hcN
  have c0 := k1.at_ 0 rfl
  unfold encX
  simp only
  clear hcB hcN hzl hzf hlast
  cases r1 with
  | false =>
    rw [Bool.false_and] at hR
    subst hR
    clear hC2 HF HB HN hgB hgN k1
    go_enter Tryz.func129, Tryz.ntmps129
    go_wp2_with (fail)
    refine hC1.out.mono ?_
    rintro e w1 ⟨rfl, q, rfl⟩
    go_wp2
    go_ret
    exact ⟨rfl, below_drewN (Below.refl _ _) q⟩
  | true =>
    rw [Bool.true_and] at hR
    subst hR
    go_enter Tryz.func129, Tryz.ntmps129
    go_wp2_with (fail)
    refine hC1.out.mono ?_
    rintro e w1 ⟨rfl, q, rfl⟩
    have hb1 : Below w.heap.size w (w.drewN q) := below_drewN (Below.refl _ _) q
    have k1q := k1.later hb1
    have gBq := hgB.later hb1
    have gNq := hgN.later hb1
    have d0 := k1q.at_ 0 rfl
    generalize w.drewN q = W at *
    clear c0 k1 hgB hgN hC1 
    have hba : Below W.heap.size W (W.alloc (.cells (madeCells #[.int .u8 0] B.length) 5)) := (Below.refl _ _).alloc (Nat.le_refl _) _
    have hf1 : Filling (W.alloc (.cells (madeCells #[.int .u8 0] B.length) 5)) W.heap.size B.length 0 (fun j => B.getD j 0 ||| ~~~ N.getD j 0) := ⟨_, Blk.new W 5 _, made_size _ _, fun j hj => absurd hj (Nat.not_lt_zero _)⟩
    have d1 := (k1q.later hba).at_ 0 rfl
    have HBA := Lib.hid hba
    have HF1 := Lib.hid hf1
    clear hba hf1 hlen hbl kB mB kN mN
    go_wp2_with (with_reducible refine wpList_make_row _ rfl _ _ 80 rfl 5 i0 _ Tryz.underlying80 hi0 hz0 hz1 rfl _ _ B.length rfl rfl (by rw [hz2]; omega) (by omega) ?_)
    clear d0 d1
    go_loopw [25] (fun i wr => ∃ k : Nat, i = .int .i64 k ∧ k ≤ B.length ∧ Below W.heap.size W wr ∧ Hid (Filling wr W.heap.size B.length k (fun j => B.getD j 0 ||| ~~~ N.getD j 0))) (fun i _ => B.length - (intOf i).toNat)
    case atStart => exact ⟨0, rfl, Nat.zero_le _, HBA.out, HF1.out⟩
    case round =>
      obtain ⟨k, rfl, hk, hbr, hfill⟩ := hrel
      clear HBA HF1
      by_cases hlt : k < B.length
      · have hkN : k < N.length := by omega
        have e0 := (k1q.later hbr).at_ 0 rfl
        have e1 := (k1q.later hbr).at_ 1 rfl
        have cA1 := (gBq.later hbr).at_ k (HB.out k hlt)
        have cM1 := (gNq.later hbr).at_ k (HN.out k hkN)
        have hst : Filling (wr.setCell ⟨W.heap.size, k, none⟩ (.int .u8 ((B.getD k 0 ||| ~~~ N.getD k 0).toNat : Int))) W.heap.size B.length (k + 1) (fun j => B.getD j 0 ||| ~~~ N.getD j 0) := hfill.out.step hlt
        obtain ⟨cur, hcur, hsz, _⟩ := hfill.out
        obtain ⟨v1, n3⟩ : ∃ v1, wr.cell? ⟨W.heap.size, k, none⟩ = some v1 := by
          rw [hcur.cell]
          exact ⟨_, Array.getElem?_eq_getElem (by omega)⟩
        have hfz := hcur.frozen k
        have ex := orx8' (B[k]'hlt) (N[k]'hkN)
        have e2 : (B.getD k 0 ||| ~~~ N.getD k 0) = (B[k]'hlt ||| ~~~ N[k]'hkN) := by
          simp [hlt, hkN]
        rw [e2] at hst
        have HS := Lib.hid hst
        clear hst e2 hcur hsz hfill
        generalize (B[k]'hlt).toNat = xa at *
        generalize (N[k]'hkN).toNat = xm at *
        generalize (B[k]'hlt ||| ~~~ N[k]'hkN).toNat = y1 at *
        go_wp2
        go_region
        go_wp2
        go_roundw
        case rel => exact ⟨k + 1, by go_num, by omega, Below.setCell hbr.drew (Nat.le_refl _) _, HS.out⟩
        case measure => simp only [intOf]; omega
      · obtain rfl : k = B.length := by omega
        have hz := HF.out _ _ hfill.out (by unfold maxLen; omega)
        have hbw := hb1.trans (hbr.mono hb1.size)
        have HC3 := Lib.hid (hC2.out _ hbw _ hz)
        clear hfill HF hz hC2
        go_wp2_with (fail)
        refine HC3.out.mono ?_
        rintro e w2 ⟨rfl, q2, rfl⟩
        go_wp2
        go_ret
        exact ⟨rfl, below_drewN hbw q2⟩
end Go.Proofs.YtblabjfjhlablaaGreatDoor
/- The walk of sortAndPrune over networks. -/
namespace Go.Proofs.YtblabjfjhlablaaGreatDoor
open Go.RowKit Go.Sort Nc
theorem But2.later {S g : Nat} {w0 w w' : World} (h : But2 S g w0 w) (hb : Below w.heap.size w w') : But2 S g w0 w' :=
  ⟨hb.os.trans h.os, hb.tape.trans h.tape, hb.output.trans h.output, Nat.le_trans h.size hb.size, fun k hk h1 h2 => (hb.block k (Nat.lt_of_lt_of_le hk h.size)).trans (h.block k hk h1 h2)⟩
theorem sorted_listP {α : Type} [Inhabited α] {cmp : α → α → Int} (d : List α) (d' : Array α) (hp : PermIn 0 d.toArray.size d.toArray d') (hs : SortedIn (ltOf cmp) 0 d.toArray.size d') :
    ∃ srt : List α, srt = d'.toList ∧ srt.Perm d ∧ Asc cmp srt := by
  obtain ⟨h1, _, h3⟩ := hp
  refine ⟨d'.toList, rfl, ?_, ?_⟩
  · have e1 : d'.extract 0 d.toArray.size = d' := by rw [← h1]; exact Array.extract_size
    have e2 : d.toArray.extract 0 d.toArray.size = d.toArray := Array.extract_size
    rw [e1, e2] at h3
    exact h3
  · unfold Asc
    rw [List.pairwise_iff_getElem]
    intro i j hi hj hij
    have h := hs i j (Nat.zero_le _) hij (by rw [← h1]; simpa using hj)
    rw [getElem!_pos d' j (by simpa using hj), getElem!_pos d' i (by simpa using hi)] at h
    exact of_decide_eq_false h
set_option maxRecDepth 100000 in
set_option maxHeartbeats 1000000 in
theorem netSort_one {w : World} {L : Nat} (x : NetW w L) (S g cap : Nat) (cur : Array Value) (hS : Blk w S 182 #[.slice (some ⟨g, 0, none⟩) 1 cap]) (hg : Blk w g 121 cur) (hc : RowHas encP [x] cur) (hcap : 1 ≤ cap) :
    Calls Tryz.prog 127 #[.pointer (some ⟨S, 0, none⟩), .func (.func 128) #[] #[], .func (.func 129) #[] #[]] w (Pruned encP cmpP subP 182 121 [x] S g cap w) := by
  have c0 := hS.at_ 0 rfl
  go_enter Tryz.func127, Tryz.ntmps127
  go_wp2
  go_end0
  exact ⟨rfl, [x], cur, .refl _, List.pairwise_singleton _ _, hS, hg, hc, hcap, But2.refl _ _ _⟩
set_option maxRecDepth 100000 in
set_option maxHeartbeats 1000000 in
theorem netSort_more {w : World} {L : Nat} [Inhabited (NetW w L)] (d : List (NetW w L)) (S g cap : Nat) (cur : Array Value) (hS : Blk w S 182 #[.slice (some ⟨g, 0, none⟩) d.length cap]) (hg : Blk w g 121 cur) (hc : RowHas encP d cur) (h2 : 2 ≤ d.length) (hl : d.length ≤ 1000000) (hcap : d.length ≤ cap) :
    Calls Tryz.prog 127 #[.pointer (some ⟨S, 0, none⟩), .func (.func 128) #[] #[], .func (.func 129) #[] #[]] w (Pruned encP cmpP subP 182 121 d S g cap w) := by
  have c0 := hS.at_ 0 rfl
  have hsort := Any.slices_SortFunc Tryz.laysSort157 encP (fun _ => rfl) cmpP netSWO 128 #[] g 0 cap d.toArray w eg128 (netCmpLays hg _) (range_row hc hg) hg.lt (by simp; omega)
  rw [List.size_toArray] at hsort
  have HS := Lib.hid hsort
  clear hsort
  have hne : S ≠ g := Blk.ne_ hS hg (by decide)
  have hcarry : ∀ W, But2 S g w W → Carry [5, 177] w W := fun W hB => Carry.but2 hB hS hg (by decide) (by decide)
  have HCA := Lib.hid hcarry
  clear hcarry
  go_enter Tryz.func127, Tryz.ntmps127
  go_wp2_with (fail)
  refine HS.out.mono ?_
  rintro e w1 ⟨rfl, d', n, os, hperm, hsorted, hw1⟩
  have hP := sorted_listP d d' hperm hsorted
  have hS1 : Blk w1 S 182 #[.slice (some ⟨g, 0, none⟩) d.length cap] := by rw [hw1]; exact (sortWorld_only _ _ _ _ _ _).blk hS hne
  have hg1 : Blk w1 g 121 (putCells encP 0 d' cur) := by rw [hw1]; exact sortWorld_blk _ _ _ _ _ _ hg
  have hB1 : But2 S g w w1 := by rw [hw1]; exact .of_only (sortWorld_only _ _ _ _ _ _)
  clear hw1 HS hperm hsorted c0
  obtain ⟨srt, hsrt, hp, hso⟩ := hP
  have hlen : srt.length = d.length := hp.length_eq
  have c1 := hS1.at_ 0 rfl
  go_wp2_with (fail)
  go_loopw [6, 7] (fun k r wr => ∃ (kk rr : Nat) (cu : Array Value), k = .int .i64 ((kk : Int) + 1) ∧ r = .int .i64 rr ∧ But2 S g w wr ∧ Blk wr S 182 #[.slice (some ⟨g, 0, none⟩) d.length cap] ∧ Blk wr g 121 cu ∧ Pruning encP subP srt (kk + 1) rr cu) (fun _ r _ => d.length - (intOf r).toNat)
  case atStart =>
    refine ⟨0, 1, _, rfl, rfl, hB1, hS1, hg1, ?_⟩
    match srt, hlen, hsrt with
    | x :: xs, hlen, hsrt =>
      refine Pruning.start (fun j y hy => ?_) (by rw [putCells_size]; have := hc.1; omega)
      have hj : j < d'.size := by
        have := (List.getElem?_eq_some_iff.1 hy).1
        rw [hsrt] at this
        simpa using this
      rw [putCells_get encP d' cur j hj (by have e : d'.size = (x :: xs).length := by rw [hsrt]; simp
                                            have := hc.1; omega)]
      rw [hsrt] at hy
      rw [getElem!_pos d' j hj]
      rw [Array.getElem?_toList, Array.getElem?_eq_getElem hj] at hy
      rw [Option.some.inj hy]
    | [], hlen, _ => exact absurd hlen (by simp; omega)
  case round =>
    obtain ⟨kk, rr, cu, rfl, rfl, hBr, hSr, hgr, hPr⟩ := hrel
    have hrl : rr ≤ d.length := by obtain ⟨_, _, _, _, _, _, _, h, _⟩ := hPr; omega
    have hkr : kk + 1 ≤ rr := by obtain ⟨_, _, _, _, _, _, h, _, _⟩ := hPr; omega
    clear hB1 hS1 hg1 c1 hS hg
    have cS := hSr.at_ 0 rfl
    by_cases hlt : rr < d.length
    · obtain ⟨last, y, e1, e2, hdrop, hkeep⟩ := hPr.look (by omega)
      have n1 := hgr.at_ _ e1
      have n2 := hgr.at_ _ e2
      rw [Nat.add_sub_cancel] at n1
      have hsub : ∀ W, Below wr.heap.size wr W → Calls Tryz.prog 129 #[encX last.val, encX y.val] W fun e w' => e = .returned (.bool (subP last y)) ∧ Below W.heap.size W w' := fun W hW =>
        netSub_calls last.val y.val W ((last.property.1.carry (HCA.out _ hBr) (by simp) (by simp)).later hW) ((y.property.1.carry (HCA.out _ hBr) (by simp) (by simp)).later hW) last.property.2.1 y.property.2.1
      have HQ := Lib.hid hsub
      have HD := Lib.hid hdrop
      have HK := Lib.hid hkeep
      have hfr : Below wr.heap.size wr wr.drew := (Below.refl _ _).drew
      have HFR := Lib.hid hfr
      clear hsub hdrop hkeep e1 e2 hfr
      unfold encP encX at n1 n2
      unfold encX at HQ
      generalize hv : subP last y = sv at *
      have ha0 : (0 : Int) ≤ (kk : Int) := by omega
      have ha1 : (kk : Int) < (d.length : Int) := by omega
      have hb0 : (0 : Int) ≤ (rr : Int) := by omega
      have hb1 : (rr : Int) < (d.length : Int) := by omega
      have hwr : IntKind.i64.wrap ((kk : Int) + 1 - 1) = (kk : Int) := (Go.IntWalk.i64_in _ (by omega)).trans (by omega)
      have hwr2 : IntKind.i64.wrap (kk : Int) = (kk : Int) := Go.IntWalk.i64_in _ (by omega)
      clear hv
      go_wp2
      go_region_held3 (fun W => W.cell? ⟨S, 0, none⟩ = some (.slice (some ⟨g, 0, none⟩) d.length cap) ∧ W.cell? ⟨g, kk, none⟩ = some (.pointer (some ⟨last.val.1, 0, none⟩)) ∧ W.cell? ⟨g, rr, none⟩ = some (.pointer (some ⟨y.val.1, 0, none⟩)))
        (first | exact ⟨cS, n1, n2⟩ | exact ⟨cell_keep fq cS, cell_keep fq n1, cell_keep fq n2⟩)
        ((go_at_call 129; (with_reducible refine (HQ.out _ HFR.out).mono ?_); rintro x u1 ⟨rfl, q1⟩; have fq := HFR.out.trans q1))
      have s1 := hSr.later fq
      have g1 := hgr.later fq
      have b1 := hBr.later fq
      have m2 := cell_keep fq n2
      clear q1 fq hSr hgr hBr cS n1 n2 HQ HFR hwr hwr2
      cases sv with
      | true =>
        have HD2 := Lib.hid (HD.out rfl)
        clear HK HD m2
        go_wp2
        go_roundw
        case rel => exact ⟨kk, rr + 1, cu, rfl, by go_num, b1, s1, g1, HD2.out⟩
        case measure => simp only [intOf]; omega
      | false =>
        have HK2 := Lib.hid (HK.out rfl)
        clear HK HD
        have hkl : ((kk : Int) + 1) < (d.length : Int) := by omega
        have hfz := g1.frozen (kk + 1)
        obtain ⟨v1, n3⟩ : ∃ v1, u1.cell? ⟨g, kk + 1, none⟩ = some v1 := by
          rw [g1.cell]
          exact ⟨_, Array.getElem?_eq_getElem (by obtain ⟨_, _, _, _, _, _, _, _, h⟩ := hPr; omega)⟩
        have cS := s1.at_ 0 rfl
        go_wp2
        go_region
        go_wp2
        go_roundw
        case rel =>
          refine ⟨kk + 1, rr + 1, _, by go_num, by go_num, ?_, ?_, ?_, HK2.out⟩
          · exact But2.setCell b1.drew (.inr rfl) _
          · exact s1.drew.far hne _
          · exact g1.drew.set_ _ _
        case measure => simp only [intOf]; omega
    · obtain rfl : rr = d.length := by omega
      have hPd : Pruning encP subP srt (kk + 1) srt.length cu := by rw [hlen]; exact hPr
      obtain ⟨q1, q2⟩ := hPd.done
      have hkc : (kk : Int) + 1 ≤ (cap : Int) := by omega
      have hfz := hSr.frozen 0
      have HQ := Lib.hid q1
      clear q1
      go_wp2
      go_end0
      refine ⟨rfl, srt, cu, hp, hso, ?_, hgr.far (fun e => hne e.symm) _, ⟨?_, q2⟩, ?_, But2.setCell hBr (.inl rfl) _⟩
      · rw [HQ.out]; exact hSr.set_ 0 _
      · rw [HQ.out]; obtain ⟨_, _, _, _, _, _, _, _, h⟩ := hPd; omega
      · rw [HQ.out]; omega
theorem netSort_calls {w : World} {L : Nat} (d : List (NetW w L)) (S g cap : Nat) (cur : Array Value) (hS : Blk w S 182 #[.slice (some ⟨g, 0, none⟩) d.length cap]) (hg : Blk w g 121 cur) (hc : RowHas encP d cur) (h0 : d ≠ []) (hl : d.length ≤ 1000000) (hcap : d.length ≤ cap) :
    Calls Tryz.prog 127 #[.pointer (some ⟨S, 0, none⟩), .func (.func 128) #[] #[], .func (.func 129) #[] #[]] w (Pruned encP cmpP subP 182 121 d S g cap w) := by
  match d, h0 with
  | [x], _ => exact netSort_one x S g cap cur hS hg hc hcap
  | x :: y :: r, _ =>
    haveI : Inhabited (NetW w L) := ⟨x⟩
    exact netSort_more (x :: y :: r) S g cap cur hS hg hc (by simp) hl hcap
end Go.Proofs.YtblabjfjhlablaaGreatDoor
