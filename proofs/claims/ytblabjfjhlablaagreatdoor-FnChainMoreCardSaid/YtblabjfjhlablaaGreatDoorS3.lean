/- The walks of spec's AddressOk and ones. -/
import Derived.Test.YtblabjfjhlablaaGreatDoorN6
import Derived.Test.YtblabjfjhlablaaGreatDoorNb
import Derived.Test.YtblabjfjhlablaaGreatDoorW19
namespace Go.Proofs.YtblabjfjhlablaaGreatDoor
open Go.RowKit Nc
theorem Byt.get {w : World} {A : Option Addr} {l : List UInt8} (h : Byt w A l) (k : Nat) (hk : k < l.length) : ∃ ad, A = some ad ∧ w.cell? (ad.add k) = some (.int .u8 (l[k].toNat : Int)) := h.at_ k hk
theorem addr_len4 {l : List UInt8} (h : l.length = 4) : addrB l = true := by simp [addrB, h]
theorem addr_lenNo {l : List UInt8} (h : l.length ≠ 4) (h2 : l.length ≠ 16) : addrB l = false := by simp [addrB, h, h2]
theorem addr_len16 {l : List UInt8} (h : l.length = 16) : addrB l = !((l.take 10).all (· == 0) && (l[10] == 255) && (l[11] == 255)) := by
  simp [addrB, h, mapped]
theorem u8_255 (b : UInt8) : (b == 255) = ((b.toNat : Int) == 255) := by
  rw [Bool.eq_iff_iff, beq_iff_eq, beq_iff_eq]
  exact ⟨fun h => by rw [h]; rfl, fun h => UInt8.toNat_inj.1 (by have := Int.ofNat.inj h; exact this)⟩
set_option maxRecDepth 100000 in
set_option maxHeartbeats 1000000 in
theorem addressOk_calls (A : Option Addr) (l : List UInt8) (c : Nat) (w : World) (h : Byt w A l) :
    Calls Tryz.prog 53 #[.slice A l.length c] w fun e w' => e = .returned (.bool (addrB l)) ∧ w = w' := by
  by_cases h4 : l.length = 4
  · rw [addr_len4 h4, h4]
    clear h
    go_enter Tryz.func53, Tryz.ntmps53
    go_wp2
    go_ret
    exact ⟨rfl, rfl⟩
  by_cases h16 : l.length = 16
  case neg =>
    rw [addr_lenNo h4 h16]
    have n4 : ((l.length : Int) == 4) = false := ib_ne (by omega)
    have n16 : ((l.length : Int) == 16) = false := ib_ne (by omega)
    have n17 : ((l.length : Int) != 16) = true := by simp [bne, n16]
    clear h h4 h16
    go_enter Tryz.func53, Tryz.ntmps53
    go_wp2
    go_ret
    exact ⟨rfl, rfl⟩
  rw [addr_len16 h16]
  obtain ⟨ad, rfl, _⟩ := h.at_ 0 (by omega)
  have hc : ∀ k (hk : k < l.length), w.cell? (ad.add k) = some (.int .u8 (l[k].toNat : Int)) := fun k hk => by
    obtain ⟨ad', e, hx⟩ := h.at_ k hk
    cases e
    exact hx
  have c10 : w.cell? ⟨ad.block, ad.off + 10, none⟩ = some (.int .u8 (l[10].toNat : Int)) := hc 10 (by omega)
  have c11 : w.cell? ⟨ad.block, ad.off + 11, none⟩ = some (.int .u8 (l[11].toNat : Int)) := hc 11 (by omega)
  have HC := Lib.hid hc
  rw [u8_255, u8_255]
  have hz : ∀ k (hk : k < 10), (l[k]'(by omega) == 0) = false → (l.take 10).all (· == 0) = false := fun k hk hb => by
    rw [List.all_eq_false]
    exact ⟨l[k]'(by omega), by rw [List.mem_take_iff_getElem]; exact ⟨k, by omega, rfl⟩, by rw [hb]; decide⟩
  have ho : (∀ k (hk : k < 10), (l[k]'(by omega) == 0) = true) → (l.take 10).all (· == 0) = true := fun hb => by
    rw [List.all_eq_true]
    intro x hx
    rw [List.mem_take_iff_getElem] at hx
    obtain ⟨k, hk, rfl⟩ := hx
    exact hb k (by omega)
  have HZ := Lib.hid hz
  have HO := Lib.hid ho
  generalize (l.take 10).all (· == 0) = z at *
  generalize l[10].toNat = b10 at *
  generalize l[11].toNat = b11 at *
  clear hc hz ho h h4
  rw [h16]
  go_enter Tryz.func53, Tryz.ntmps53
  go_wp2
  go_loop [10] (fun i => ∃ k : Nat, i = .int .i64 k ∧ k ≤ 10 ∧ Hid (∀ j (hj : j < k) (hj2 : j < l.length), (l[j] == 0) = true)) (fun i => 10 - (intOf i).toNat)
  case atStart => exact ⟨0, rfl, Nat.zero_le _, fun j hj _ => absurd hj (Nat.not_lt_zero _)⟩
  case round =>
    obtain ⟨k, rfl, hk, hr⟩ := hrel
    by_cases hlt : k < 10
    · have cx := HC.out k (by omega)
      have h1 := HZ.out k hlt
      have h2 : (l[k]'(by omega) == 0) = true → Hid (∀ j (hj : j < k + 1) (hj2 : j < l.length), (l[j] == 0) = true) := fun hb j hj hj2 => by
        rcases Nat.lt_or_eq_of_le (Nat.le_of_lt_succ hj) with e | e
        · exact hr.out j e hj2
        · subst e; exact hb
      rw [u8_eq0] at h1 h2
      have H1 := Lib.hid h1
      have H2 := Lib.hid h2
      clear h1 h2 hr c10 c11
      generalize (l[k]'(by omega)).toNat = b at *
      cases hb : ((b : Int) == 0) with
      | true =>
        have h3 := H2.out hb
        have hb2 : ((b : Int) != 0) = false := by simp [bne, hb]
        clear H1 H2
        go_wp2
        go_round
        case rel => exact ⟨k + 1, by go_num, by omega, h3⟩
        case measure => simp only [intOf]; omega
      | false =>
        have h3 := H1.out hb
        have hb2 : ((b : Int) != 0) = true := by simp [bne, hb]
        clear H1 H2 HO HZ
        subst h3
        go_wp2
        go_ret
        exact ⟨rfl, rfl⟩
    · obtain rfl : k = 10 := by omega
      have hv := HO.out (fun j hj => hr.out j hj (by omega))
      clear hr HO HZ
      subst hv
      cases hb : ((b10 : Int) == 255) with
      | false =>
        have hb2 : ((b10 : Int) != 255) = true := by simp [bne, hb]
        go_wp2
        go_ret
        exact ⟨rfl, rfl⟩
      | true =>
        have hb2 : ((b10 : Int) != 255) = false := by simp [bne, hb]
        cases hd : ((b11 : Int) == 255) with
        | false =>
          have hd2 : ((b11 : Int) != 255) = true := by simp [bne, hd]
          go_wp2
          go_ret
          exact ⟨rfl, rfl⟩
        | true =>
          have hd2 : ((b11 : Int) != 255) = false := by simp [bne, hd]
          go_wp2
          go_ret
          exact ⟨rfl, rfl⟩
/-- The bits of a mask, from its beginning. -/
def bitAt (M : List UInt8) (k : Nat) : Bool := bitOf (M.getD (k / 8) 0) (k % 8)
def bitsL (M : List UInt8) : List Bool := (List.range (8 * M.length)).map (bitAt M)
theorem bitsL_flat : ∀ M : List UInt8, bitsL M = M.flatMap bitsOf
  | [] => rfl
  | m :: M => by
    have ih := bitsL_flat M
    unfold bitsL at ih ⊢
    rw [List.flatMap_cons, ← ih]
    have e : 8 * (m :: M).length = 8 + 8 * M.length := by simp; omega
    rw [e, List.range_add, List.map_append, List.map_map]
    congr 1
    refine List.map_congr_left fun k _ => ?_
    simp only [Function.comp]
    unfold bitAt
    rw [show (8 + k) / 8 = k / 8 + 1 by omega, show (8 + k) % 8 = k % 8 by omega]
    rfl
theorem bitsL_len (M : List UInt8) : (bitsL M).length = 8 * M.length := by simp [bitsL]
theorem bitsL_drop (M : List UInt8) (k : Nat) (h : k < 8 * M.length) : (bitsL M).drop k = bitAt M k :: (bitsL M).drop (k + 1) := by
  rw [List.drop_eq_getElem_cons (by rw [bitsL_len]; exact h)]
  congr 1
  simp [bitsL]
theorem bitsL_pm (M : List UInt8) : scanA (bitsL M) = pm M := by rw [bitsL_flat, scan_pm]
end Go.Proofs.YtblabjfjhlablaaGreatDoor
/- The walks of spec's ones and last. -/
namespace Go.Proofs.YtblabjfjhlablaaGreatDoor
open Go.RowKit Go.Sort Nc
def onesRest (M : List UInt8) (k j : Nat) : Bool := if j = k then scanA ((bitsL M).drop k) else ((bitsL M).drop k).all (!·)
theorem bit_and (r : Nat) (hr : r < 8) : ∀ m : UInt8, (bits .and .u8 ((m.toNat : Int) / 2 ^ (7 - r)) 1 == 1) = bitOf m r := by
  match r, hr with
  | 0, _ => exact forall_u8 _ (by decide +kernel)
  | 1, _ => exact forall_u8 _ (by decide +kernel)
  | 2, _ => exact forall_u8 _ (by decide +kernel)
  | 3, _ => exact forall_u8 _ (by decide +kernel)
  | 4, _ => exact forall_u8 _ (by decide +kernel)
  | 5, _ => exact forall_u8 _ (by decide +kernel)
  | 6, _ => exact forall_u8 _ (by decide +kernel)
  | 7, _ => exact forall_u8 _ (by decide +kernel)
set_option maxRecDepth 100000 in
set_option maxHeartbeats 1000000 in
theorem ones_calls (A : Option Addr) (M : List UInt8) (c : Nat) (w : World) (h : Byt w A M) (hl : M.length ≤ 100) :
    Calls Tryz.prog 115 #[.slice A M.length c] w fun e w' => (∃ j : Nat, e = .returned (.tuple #[.int .i64 j, .bool (pm M)])) ∧ Below w.heap.size w w' := by
  have H := Lib.hid h
  clear h
  go_enter Tryz.func115, Tryz.ntmps115
  have hm : IntKind.i64.wrap (8 * (M.length : Int)) = ((8 * M.length : Nat) : Int) := by rw [Go.IntWalk.i64_in _ (by omega)]; omega
  go_wp2
  go_loop [4, 5, 9] (fun a b i => ∃ k j : Nat, i = .int .i64 k ∧ k ≤ 8 * M.length ∧ a = .int .i64 (j : Nat) ∧ j ≤ k ∧ Hid (onesRest M k j = pm M)) (fun _ _ i => 8 * M.length - (intOf i).toNat)
  case atStart => exact ⟨0, 0, rfl, Nat.zero_le _, rfl, Nat.le_refl _, by show _ = _; unfold onesRest; rw [if_pos rfl, List.drop_zero]; exact bitsL_pm M⟩
  case round =>
    obtain ⟨k, j, rfl, hk, rfl, hj, hr⟩ := hrel
    by_cases hlt : k < 8 * M.length
    · have hd := bitsL_drop M k hlt
      have hq : k / 8 < M.length := by omega
      obtain ⟨ad, rfl, cb⟩ := H.out.at_ (k / 8) hq
      have hb : bitAt M k = bitOf M[k / 8] (k % 8) := by unfold bitAt; simp [hq]
      rw [hb] at hd
      clear hb
      generalize M[k / 8] = m at *
      have t1 : (k : Int).tdiv 8 = ((k / 8 : Nat) : Int) := by rw [Int.tdiv_eq_ediv_of_nonneg (by omega)]; omega
      have t2 : (k : Int).tmod 8 = ((k % 8 : Nat) : Int) := by rw [Int.tmod_eq_emod_of_nonneg (by omega)]; omega
      have t3 : IntKind.i64.wrap ((k / 8 : Nat) : Int) = ((k / 8 : Nat) : Int) := Go.IntWalk.i64_in _ (by omega)
      have t4 : IntKind.i64.wrap (7 - ((k % 8 : Nat) : Int)) = ((7 - k % 8 : Nat) : Int) := by rw [Go.IntWalk.i64_in _ (by omega)]; omega
      have t5 : IntKind.i64.wrap ((k % 8 : Nat) : Int) = ((k % 8 : Nat) : Int) := Go.IntWalk.i64_in _ (by omega)
      have t6 := bit_and (k % 8) (by omega) m
      have hR := hr.out
      unfold onesRest at hR
      rw [hd] at hR
      clear hr hd
      by_cases hjk : j = k
      · subst hjk
        rw [if_pos rfl, scanA] at hR
        cases hbit : bitOf m (j % 8) with
        | true =>
          rw [hbit] at hR t6
          have HR := Lib.hid hR
          clear hR hbit
          go_wp2
          go_round
          case rel => exact ⟨j + 1, j + 1, by go_num, by omega, by go_num, Nat.le_refl _, by show _ = _; unfold onesRest; rw [if_pos rfl]; simpa using HR.out⟩
          case measure => simp only [intOf]; omega
        | false =>
          rw [hbit] at hR t6
          have HR := Lib.hid hR
          clear hR hbit
          go_wp2
          go_round
          case rel => exact ⟨j + 1, j, by go_num, by omega, rfl, by omega, by show _ = _; unfold onesRest; rw [if_neg (by omega)]; simpa using HR.out⟩
          case measure => simp only [intOf]; omega
      · rw [if_neg hjk, List.all_cons] at hR
        have hne : ((j : Int) != (k : Int)) = true := by simp [bne, ib_ne (show ¬ (j : Int) = (k : Int) by omega)]
        cases hbit : bitOf m (k % 8) with
        | true =>
          rw [hbit] at hR t6
          have hpm : pm M = false := by simpa using hR.symm
          clear hR hbit
          go_wp2
          exact bodyPost_ret (v := .tuple #[.int .i64 0, .bool false]) (by simp [results, Tryz.results115, go_sem]) rfl ⟨⟨0, by first | rfl | (rw [hpm]; rfl)⟩, Below.refl _ _⟩
        | false =>
          rw [hbit] at hR t6
          have HR := Lib.hid hR
          clear hR hbit
          go_wp2
          go_round
          case rel => exact ⟨k + 1, j, by go_num, by omega, rfl, by omega, by show _ = _; unfold onesRest; rw [if_neg (by omega)]; simpa using HR.out⟩
          case measure => simp only [intOf]; omega
    · obtain rfl : k = 8 * M.length := by omega
      have hR := hr.out
      unfold onesRest at hR
      rw [List.drop_eq_nil_of_le (by rw [bitsL_len]; omega)] at hR
      have hpm : pm M = true := by split at hR <;> exact hR.symm
      clear hR hr
      go_wp2
      exact bodyPost_ret (v := .tuple #[.int .i64 j, .bool true]) (by simp [results, Tryz.results115, go_sem]) rfl ⟨⟨j, by first | rfl | (rw [hpm])⟩, Below.refl _ _⟩
theorem bcast_at (A M : List UInt8) (k : Nat) (h : k < (bcast A M).length) (h1 : k < A.length) (h2 : k < M.length) : (bcast A M)[k] = A[k] ||| ~~~M[k] := by
  exact List.getElem_zipWith
set_option maxRecDepth 100000 in
set_option maxHeartbeats 1000000 in
theorem last_calls (A M : Option Addr) (n : NetV) (ca cm : Nat) (w : World) (hA : Byt w A n.1) (hM : Byt w M n.2) (hl : n.2.length = n.1.length) (h4 : n.1.length = 4 ∨ n.1.length = 16) :
    Calls Tryz.prog 116 #[.agg #[.slice A n.1.length ca, .slice M n.2.length cm]] w (NewBytes (bcast n.1 n.2) w) := by
  obtain ⟨i0, hi0, hz0, hz1, hz2⟩ := info_parts u8_zero_info
  obtain ⟨a, m⟩ := n
  simp only at *
  have hbl := bcast_len hl
  have HA := Lib.hid hA
  have HM := Lib.hid hM
  have HB := Lib.hid (bcast_at a m)
  have HBL := Lib.hid hbl
  have HL := Lib.hid hl
  have hC : Blk (w.alloc (.cells #[.slice A a.length ca, .slice M m.length cm] 72)) w.heap.size 72 #[.slice A a.length ca, .slice M m.length cm] := Blk.new _ _ _
  have hb0 : Below w.heap.size w (w.alloc (.cells #[.slice A a.length ca, .slice M m.length cm] 72)) := (Below.refl _ _).alloc (Nat.le_refl _) _
  have hbd : a.length ≤ 16 := by omega
  have h0 : bcast a m ≠ [] := fun e => by rw [e] at hbl; simp at hbl; omega
  have H0 := Lib.hid h0
  have hml : m.length ≤ 16 := by omega
  generalize bcast a m = B at *
  clear hA hM hbl hl h4 h0
  go_enter Tryz.func116, Tryz.ntmps116
  go_wp2
  have hsz : (w.alloc (.cells #[.slice A a.length ca, .slice M m.length cm] 72)).heap.size = w.heap.size + 1 := World.size_alloc _ _
  generalize w.alloc (.cells #[.slice A a.length ca, .slice M m.length cm] 72) = W1 at *
  have ho : (W1.alloc (.cells #[] 5)).ownsRow w.heap.size 5 1 (.slice (some ⟨W1.heap.size, 0, none⟩) 0 0) 0 [] := ⟨by simp, .inr ⟨W1.heap.size, 0, #[], rfl, hb0.size, Blk.new _ _ _, by simp⟩⟩
  have hb2 := hb0.alloc hb0.size (.cells #[] 5)
  have hC2 := hC.alloc (.cells #[] 5)
  rw [hsz] at ho
  have HS := Lib.hid (And.intro ho (And.intro hb2 hC2))
  clear ho hb2 hC2 hsz
  go_loopw [3, 10] (fun o i wr => ∃ k : Nat, i = .int .i64 k ∧ k ≤ a.length ∧ Below w.heap.size w wr ∧ wr.ownsRow w.heap.size 5 1 o k ((B.take k).map b8) ∧ Blk wr w.heap.size 72 #[.slice A a.length ca, .slice M m.length cm]) (fun _ i _ => a.length - (intOf i).toNat)
  case atStart => exact ⟨0, rfl, Nat.zero_le _, HS.out.2.1, HS.out.1, HS.out.2.2⟩
  case round =>
    obtain ⟨k, rfl, hk, hbr, hown, hbox⟩ := hrel
    clear HS hb0 hC
    by_cases hlt : k < a.length
    · have hkm : k < m.length := by rw [HL.out]; exact hlt
      have hkb : k < B.length := by rw [HBL.out]; exact hlt
      obtain ⟨xa, rfl, ca1⟩ := (HA.out.later hbr).at_ k hlt
      obtain ⟨xm, rfl, cm1⟩ := (HM.out.later hbr).at_ k hkm
      have hB := HB.out k hkb hlt hkm
      have ex := orx8' a[k] m[k]
      rw [← hB] at ex
      have htk : Hid ((B.take (k + 1)).map b8 = (B.take k).map b8 ++ [.int .u8 (B[k].toNat : Int)]) := by
        show _ = _
        rw [List.take_succ_eq_append_getElem hkb, List.map_append]; rfl
      clear hB
      generalize B[k].toNat = y1 at *
      generalize a[k].toNat = y2 at *
      generalize m[k].toNat = y3 at *
      have c1 := hbox.at_ 1 rfl
      have hb2 := hbr.alloc hbr.size (.cells #[.int .u8 (y1 : Int)] 5)
      have hown2 := hown.alloc (.cells #[.int .u8 (y1 : Int)] 5)
      have hbox2 := hbox.alloc (.cells #[.int .u8 (y1 : Int)] 5)
      have hrd := one_rd wr 5 (.int .u8 (y1 : Int))
      go_wp2_with (first
        | (at_builtin
           refine wpList_append_any _ rfl _ (.tmp 24) _ rfl w.heap.size 5 i0 _ 1 1 Tryz.underlying43 hi0 hz0 hz1 hz2 rfl (by omega) u3 k _ rfl hown2 (wr.heap.size + 1) (some ⟨wr.heap.size, 0, none⟩) 1 1 _ rfl hrd (by simp [Value.oneCell']) (by simp only [maxLen]; omega) (by omega) hb2.size ?_
           intro v3 w3 hown3 hg3 hat3))
      have hb3 := hb2.grown hg3 hb2.size (fun q hq => (hown2.lt q hq).1)
      have hk3 : Keeps 5 (wr.alloc (.cells #[.int .u8 (y1 : Int)] 5)) w3 := Keeps.of_grown hown2 hg3
      have hbox3 := hk3.blk hbox2 (by decide)
      have hrow : w3.ownsRow w.heap.size 5 1 v3 (k + 1) ((B.take (k + 1)).map b8) := by
        rw [htk.out]; exact hown3
      clear hat3 hg3 hown3 hown2 hrd hbox2 hk3 hb2 htk
      go_wp2
      go_roundw
      case rel => exact ⟨k + 1, by go_num, by omega, hb3, hrow, hbox3⟩
      case measure => simp only [intOf]; omega
    · obtain rfl : k = a.length := by omega
      rw [List.take_of_length_le (by rw [HBL.out]; exact Nat.le_refl _)] at hown
      have hR := BSl.of_row (SRow.of_own hown) H0.out
      obtain ⟨g, c, rfl⟩ := hR.val
      have HR := Lib.hid (And.intro hR hbr)
      clear hR hbr hown hbox
      go_wp2
      go_ret
      exact ⟨_, rfl, HR.out.1, HR.out.2⟩
end Go.Proofs.YtblabjfjhlablaaGreatDoor
/- The walk of spec's NetOk. -/
namespace Go.Proofs.YtblabjfjhlablaaGreatDoor
open Go.RowKit Go.Sort Nc
theorem netB_of {n : NetV} (h1 : addrB n.1 = true) (h2 : n.2.length = n.1.length) : netB n = (pm n.2 && addrB (bcast n.1 n.2) && maskedB n.1 n.2) := by
  simp [netB, h1, h2]
theorem andn8 (a b : UInt8) : bits .andNot .u8 (a.toNat : Int) (b.toNat : Int) = ((a &&& ~~~b).toNat : Int) := by
  rw [u8_andNot_nat _ _ a.toNat_lt b.toNat_lt, UInt8.toNat_and]
  congr 2
  revert b
  exact forall_u8 _ (by decide +kernel)
def maskAt (A M : List UInt8) (j : Nat) : Bool := (((A.getD j 0) &&& ~~~(M.getD j 0)).toNat : Int) != 0
theorem maskAt_eq {A M : List UInt8} {j : Nat} (h1 : j < A.length) (h2 : j < M.length) : maskAt A M j = ((A[j] &&& ~~~M[j]).toNat != (0 : Int)) := by
  simp [maskAt, h1, h2]
theorem masked_all {A M : List UInt8} (hl : A.length = M.length) (h : ∀ j, j < A.length → maskAt A M j = false) : maskedB A M = true := by
  refine (masked_iff A M hl).2 fun j h1 h2 => ?_
  have := h j h1
  rw [maskAt_eq h1 h2] at this
  have e : (A[j] &&& ~~~M[j]).toNat = 0 := by
    have := (bne_eq_false_iff_eq).1 this
    omega
  exact UInt8.toNat_inj.1 e
theorem masked_not {A M : List UInt8} (hl : A.length = M.length) (j : Nat) (h1 : j < A.length) (h : maskAt A M j = true) : maskedB A M = false := by
  rw [Bool.eq_false_iff]
  intro hm
  have := (masked_iff A M hl).1 hm j h1 (by omega)
  rw [maskAt_eq h1 (by omega), this] at h
  exact absurd h (by decide)
set_option maxRecDepth 100000 in
set_option maxHeartbeats 1000000 in
theorem netOk_calls (A M : Option Addr) (n : NetV) (ca cm : Nat) (w : World) (hA : Byt w A n.1) (hM : Byt w M n.2) (hl1 : n.1.length ≤ 9000000000000000000) (hl2 : n.2.length ≤ 9000000000000000000) :
    Calls Tryz.prog 80 #[.agg #[.slice A n.1.length ca, .slice M n.2.length cm]] w fun e w' => e = .returned (.bool (netB n)) ∧ Below w.heap.size w w' := by
  have hC : Blk (w.alloc (.cells #[.slice A n.1.length ca, .slice M n.2.length cm] 72)) w.heap.size 72 #[.slice A n.1.length ca, .slice M n.2.length cm] := Blk.new _ _ _
  have hb0 : Below w.heap.size w (w.alloc (.cells #[.slice A n.1.length ca, .slice M n.2.length cm] 72)) := (Below.refl _ _).alloc (Nat.le_refl _) _
  obtain ⟨a, m⟩ := n
  simp only at *
  have KA := Lib.hid (fun (W : World) (hW : Below w.heap.size w W) => addressOk_calls A a ca W (hA.later hW))
  cases hab : addrB a with
  | false =>
    have hnb : netB (a, m) = false := by simp [netB, hab]
    rw [hnb]
    rw [hab] at KA
    clear hnb hA hM hab
    have c0 := hC.at_ 0 rfl
    have c1 := hC.at_ 1 rfl
    go_enter Tryz.func80, Tryz.ntmps80
    go_wp2_with (first | (go_at_call 53; (with_reducible refine (KA.out _ hb0).mono ?_); rintro e w1 ⟨rfl, rfl⟩) | fail)
    go_ret
    exact ⟨rfl, hb0⟩
  | true =>
  have h4 := addrB_len hab
  rw [hab] at KA
  by_cases hl : m.length = a.length
  case neg =>
    have hnb : netB (a, m) = false := by simp [netB, hl]
    have hd : ((m.length : Int) != (a.length : Int)) = true := by simp [bne, ib_ne (show ¬ (m.length : Int) = (a.length : Int) by omega)]
    rw [hnb]
    clear hnb hA hM hab hl
    have c0 := hC.at_ 0 rfl
    have c1 := hC.at_ 1 rfl
    go_enter Tryz.func80, Tryz.ntmps80
    go_wp2_with (first | (go_at_call 53; (with_reducible refine (KA.out _ hb0).mono ?_); rintro e w1 ⟨rfl, rfl⟩) | fail)
    go_ret
    exact ⟨rfl, hb0⟩
  rw [netB_of hab hl]
  have hd : ((m.length : Int) != (a.length : Int)) = false := by simp [bne, ib_eq (show (m.length : Int) = (a.length : Int) by omega)]
  have KO := Lib.hid (fun (W : World) (hW : Below w.heap.size w W) => ones_calls M m cm W (hM.later hW) (by omega))
  have KL := Lib.hid (fun (W : World) (hW : Below w.heap.size w W) => last_calls A M (a, m) ca cm W (hA.later hW) (hM.later hW) hl h4)
  have KB := Lib.hid (fun (v : Value) (W : World) (h : BSl W v (bcast a m)) => (show ∃ g c, v = .slice (some ⟨g, 0, none⟩) (bcast a m).length c ∧ Calls Tryz.prog 53 #[.slice (some ⟨g, 0, none⟩) (bcast a m).length c] W fun e w' => e = .returned (.bool (addrB (bcast a m))) ∧ W = w' from by
    obtain ⟨A', c', e, hb⟩ := h.byt
    obtain ⟨g, c, rfl⟩ := h.val
    injection e with e1 e2 e3
    subst e1 e3
    exact ⟨g, c, rfl, addressOk_calls _ _ c W hb⟩))
  have HL := Lib.hid hl
  have HA := Lib.hid hA
  have HM := Lib.hid hM
  have hmk1 := Lib.hid (fun h => masked_all (A := a) (M := m) hl.symm h)
  have hmk2 := Lib.hid (masked_not (A := a) (M := m) hl.symm)
  have hml : m.length ≤ 16 := by omega
  have hal : a.length ≤ 16 := by omega
  simp only at KO KL
  generalize pm m = P at *
  generalize addrB (bcast a m) = Q at *
  generalize maskedB a m = R at *
  clear hA hM hab hl h4
  have c0 := hC.at_ 0 rfl
  have c1 := hC.at_ 1 rfl
  cases P with
  | false =>
    simp only [Bool.false_and]
    go_enter Tryz.func80, Tryz.ntmps80
    go_wp2_with (first
      | (go_at_call 53; (with_reducible refine (KA.out _ hb0).mono ?_); rintro e w1 ⟨rfl, rfl⟩)
      | (go_at_call 115; (with_reducible refine (KO.out _ hb0).mono ?_); rintro e w2 ⟨⟨j, rfl⟩, bO⟩; have hb2 := hb0.trans (bO.mono hb0.size); have hC2 := hC.later bO; have d0 := hC2.at_ 0 rfl; have d1 := hC2.at_ 1 rfl)
      | (go_at_call 116; (with_reducible refine (KL.out _ hb2).mono ?_); rintro e w3 ⟨v3, rfl, b3, bL⟩; have hb3 := hb2.trans (bL.mono hb2.size); have hC3 := hC2.later bL; obtain ⟨g3, k3, rfl, hK⟩ := KB.out _ _ b3; have f0 := hC3.at_ 0 rfl; have f1 := hC3.at_ 1 rfl)
      | (go_at_call 53; (with_reducible refine hK.mono ?_); rintro e w4 ⟨rfl, rfl⟩)
      | fail)
    go_ret
    exact ⟨rfl, hb2⟩
  | true =>
  cases Q with
  | false =>
    simp only [Bool.true_and, Bool.false_and]
    go_enter Tryz.func80, Tryz.ntmps80
    go_wp2_with (first
      | (go_at_call 53; (with_reducible refine (KA.out _ hb0).mono ?_); rintro e w1 ⟨rfl, rfl⟩)
      | (go_at_call 115; (with_reducible refine (KO.out _ hb0).mono ?_); rintro e w2 ⟨⟨j, rfl⟩, bO⟩; have hb2 := hb0.trans (bO.mono hb0.size); have hC2 := hC.later bO; have d0 := hC2.at_ 0 rfl; have d1 := hC2.at_ 1 rfl)
      | (go_at_call 116; (with_reducible refine (KL.out _ hb2).mono ?_); rintro e w3 ⟨v3, rfl, b3, bL⟩; have hb3 := hb2.trans (bL.mono hb2.size); have hC3 := hC2.later bL; obtain ⟨g3, k3, rfl, hK⟩ := KB.out _ _ b3; have f0 := hC3.at_ 0 rfl; have f1 := hC3.at_ 1 rfl)
      | (go_at_call 53; (with_reducible refine hK.mono ?_); rintro e w4 ⟨rfl, rfl⟩)
      | fail)
    go_ret
    exact ⟨rfl, hb3⟩
  | true =>
  simp only [Bool.true_and]
  go_enter Tryz.func80, Tryz.ntmps80
  go_wp2_with (first
    | (go_at_call 53; (with_reducible refine (KA.out _ hb0).mono ?_); rintro e w1 ⟨rfl, rfl⟩)
    | (go_at_call 115; (with_reducible refine (KO.out _ hb0).mono ?_); rintro e w2 ⟨⟨j, rfl⟩, bO⟩; have hb2 := hb0.trans (bO.mono hb0.size); have hC2 := hC.later bO; have d0 := hC2.at_ 0 rfl; have d1 := hC2.at_ 1 rfl)
    | (go_at_call 116; (with_reducible refine (KL.out _ hb2).mono ?_); rintro e w3 ⟨v3, rfl, b3, bL⟩; have hb3 := hb2.trans (bL.mono hb2.size); have hC3 := hC2.later bL; obtain ⟨g3, k3, rfl, hK⟩ := KB.out _ _ b3; have f0 := hC3.at_ 0 rfl; have f1 := hC3.at_ 1 rfl)
    | (go_at_call 53; (with_reducible refine hK.mono ?_); rintro e w4 ⟨rfl, rfl⟩)
    | fail)
  clear KA KO KL KB hK b3 hb2 hC2 bL bO hb0 hC c0 c1 d0 d1
  go_loop [37] (fun i => ∃ k : Nat, i = .int .i64 k ∧ k ≤ a.length ∧ Hid (∀ j, j < k → maskAt a m j = false)) (fun i => a.length - (intOf i).toNat)
  case atStart => exact ⟨0, rfl, Nat.zero_le _, fun j hj => absurd hj (Nat.not_lt_zero _)⟩
  case round =>
    obtain ⟨k, rfl, hk, hr⟩ := hrel
    by_cases hlt : k < a.length
    · have hkm : k < m.length := by rw [HL.out]; exact hlt
      obtain ⟨xa, rfl, ca1⟩ := (HA.out.later hb3).at_ k hlt
      obtain ⟨xm, rfl, cm1⟩ := (HM.out.later hb3).at_ k hkm
      have hmq := maskAt_eq hlt hkm
      have ean := andn8 a[k] m[k]
      generalize (a[k] &&& ~~~m[k]).toNat = z at *
      generalize a[k].toNat = xz at *
      generalize m[k].toNat = yz at *
      cases hz : (z : Int) != 0 with
      | true =>
        have hRf := hmk2.out k hlt (hmq.trans hz)
        subst hRf
        clear hmq hr hmk1 hmk2
        go_wp2
        go_ret
        exact ⟨rfl, hb3⟩
      | false =>
        have hnx : Hid (∀ j, j < k + 1 → maskAt a m j = false) := fun j hj => by
          by_cases e : j = k
          · subst e; exact hmq.trans hz
          · exact hr.out j (by omega)
        clear hmq hr
        go_wp2
        go_round
        case rel => exact ⟨k + 1, by go_num, by omega, hnx⟩
        case measure => simp only [intOf]; omega
    · obtain rfl : k = a.length := by omega
      have hRt := hmk1.out hr.out
      subst hRt
      clear hr hmk1 hmk2
      go_wp2
      go_ret
      exact ⟨rfl, hb3⟩
end Go.Proofs.YtblabjfjhlablaaGreatDoor
