/- The walks of ZZCheckIP, CheckIP and FnChainIP. -/
import Derived.Test.YtblabjfjhlablaaGreatDoorRd
import Derived.Test.YtblabjfjhlablaaGreatDoorW45
namespace Go.Proofs.YtblabjfjhlablaaGreatDoor
open Go.RowKit Go.Sort Nc
/-- A certificate with networks and one address. -/
def netC (p e : List NetV) (ip : List UInt8) : GC := { p := fun _ => [], e := fun _ => [], s := fun _ => [], pn := p, en := e, ad := [ip] }
def netBad (p e : List NetV) (ip : List UInt8) : Bool := ruledOut (askNet p ip) (askNet e ip)
theorem netC_bad (p e : List NetV) (ip : List UInt8) : gBad XIP (netC p e ip) (netC p e ip) = netBad p e ip := by
  simp [gBad, netC, netBad, XIP]
set_option maxRecDepth 100000 in
set_option maxHeartbeats 2000000 in
theorem zzCheckIp_calls (p e : List NetV) (ip : List UInt8) (vp ve vi : Value) (w : World) (hp : NetsLie p w vp) (he : NetsLie e w ve) (hi : BSl w vi ip) (hok : (netC p e ip).Ok XIP) :
    Calls Tryz.prog 65 #[vp, ve, vi] w (Says (netBad p e ip) w) := by
  have h1 := Lib.hid (XIP_fit.made p w vp hok.pn hp)
  have h2 := Lib.hid (fun W (hW : Below w.heap.size w W) => XIP_fit.made e W ve hok.en (he.later' hW))
  have h3 := fun (a : Nat → Value) (j b : Nat) (nx v1 v2 v3 v4 : Value) (W : World) => gCheck_calls XIP XIP_fit (netC p e ip) (netC p e ip) (oneT 0 txIP) (oneT_le 0 txIP (by decide)) a j b nx v1 v2 v3 v4 W hok ⟨hok.pn, hok.en⟩
  rw [netC_bad] at h3
  have H3 := Lib.hid h3
  have HI := Lib.hid hi
  obtain ⟨gi, ki, rfl⟩ := hi.val
  generalize netBad p e ip = R at *
  clear hp he hok h3
  go_enter Tryz.func65, Tryz.ntmps65
  go_wp2_with (fail)
  refine h1.out.mono ?_
  rintro x w1 ⟨u1, rfl, uc1, uo1, f1, b1⟩
  unfold Value.cells at uc1
  go_wp2_with (fail)
  refine (h2.out _ b1).mono ?_
  rintro x w2 ⟨u2, rfl, uc2, uo2, f2, b2⟩
  unfold Value.cells at uc2
  have hB2 := b1.trans (b2.mono b1.size)
  have hC : Blk (w2.alloc (.cells #[.string ⟨#[73, 80, 32, 97, 100, 100, 114, 101, 115, 115]⟩, u1, u2, .string ⟨#[]⟩, .nilIface, .nilIface, .string ⟨#[]⟩, .nilIface, .nilIface, .string ⟨#[]⟩, .nilIface, .nilIface, .int .i64 0, .pointer none] 100)) w2.heap.size 100 (ccT (oneT 0 txIP) (ifsK 0 u1 u2) 0 (.pointer none)) := Blk.new w2 100 _
  have hA1 : Below w2.heap.size w2 (w2.alloc (.cells #[.string ⟨#[73, 80, 32, 97, 100, 100, 114, 101, 115, 115]⟩, u1, u2, .string ⟨#[]⟩, .nilIface, .nilIface, .string ⟨#[]⟩, .nilIface, .nilIface, .string ⟨#[]⟩, .nilIface, .nilIface, .int .i64 0, .pointer none] 100)) := (Below.refl _ _).alloc (Nat.le_refl _) _
  have hz1 : (w2.alloc (.cells #[.string ⟨#[73, 80, 32, 97, 100, 100, 114, 101, 115, 115]⟩, u1, u2, .string ⟨#[]⟩, .nilIface, .nilIface, .string ⟨#[]⟩, .nilIface, .nilIface, .string ⟨#[]⟩, .nilIface, .nilIface, .int .i64 0, .pointer none] 100)).heap.size = w2.heap.size + 1 := World.size_alloc _ _
  have hS := Blk.new (w2.alloc (.cells #[.string ⟨#[73, 80, 32, 97, 100, 100, 114, 101, 115, 115]⟩, u1, u2, .string ⟨#[]⟩, .nilIface, .nilIface, .string ⟨#[]⟩, .nilIface, .nilIface, .string ⟨#[]⟩, .nilIface, .nilIface, .int .i64 0, .pointer none] 100)) 80 #[.slice (some ⟨gi, 0, none⟩) ip.length ki]
  have hA2 := hA1.alloc hA1.size (.cells #[.slice (some ⟨gi, 0, none⟩) ip.length ki] 80)
  have hC2 := hC.alloc (.cells #[.slice (some ⟨gi, 0, none⟩) ip.length ki] 80)
  rw [hz1] at hS
  have hi2 := ((hi.later b1).later b2).later hA2
  have hrow : AddrRow [ip] ((w2.alloc (.cells #[.string ⟨#[73, 80, 32, 97, 100, 100, 114, 101, 115, 115]⟩, u1, u2, .string ⟨#[]⟩, .nilIface, .nilIface, .string ⟨#[]⟩, .nilIface, .nilIface, .string ⟨#[]⟩, .nilIface, .nilIface, .int .i64 0, .pointer none] 100)).alloc (.cells #[.slice (some ⟨gi, 0, none⟩) ip.length ki] 80)) (.slice (some ⟨w2.heap.size + 1, 0, none⟩) 1 1) :=
    ⟨[.slice (some ⟨gi, 0, none⟩) ip.length ki], rfl, .inr ⟨w2.heap.size + 1, 1, _, rfl, hS, by simp, by simp [maxLen], by simp, fun j u hu => by
      cases j with
      | zero => simpa using hu
      | succ j => simp at hu⟩, fun j h1 h2 => by
      obtain rfl : j = 0 := by simp at h2; omega
      exact hi2⟩
  have hq := H3.out (ifsK 0 u1 u2) 0 w2.heap.size (.pointer none) (.slice none 0 0) (.slice none 0 0) (.slice none 0 0) (.slice (some ⟨w2.heap.size + 1, 0, none⟩) 1 1) _ ((IsIp.later f1 b2).later hA2) (IsIp.later f2 hA2) (.inl ⟨rfl, rfl⟩) (.inl ⟨rfl, rfl⟩) (.inl ⟨rfl, rfl⟩) (.inl ⟨rfl, rfl⟩) (.inl ⟨rfl, rfl⟩) (.inl ⟨rfl, rfl⟩) hC2 (.inl ⟨rfl, rfl⟩) ⟨none, 0, rfl, fun h => absurd h (by simp [netC])⟩ ⟨none, 0, rfl, fun h => absurd h (by simp [netC])⟩ hrow
  have HQ := Lib.hid hq
  have HB := Lib.hid (hB2.trans (hA2.mono hB2.size))
  clear hq hB2 hA1 hA2 hC hC2 f1 f2 b1 b2 H3 h1 h2 hrow hi2 hS hz1 hi
  go_wp2_with (fail)
  refine HQ.out.mono ?_
  rintro x w3 ⟨v, rfl, b3, s3⟩
  have hB := HB.out.trans (b3.mono HB.out.size)
  have HS3 := Lib.hid s3
  clear HQ HB b3 s3
  go_wp2
  go_ret
  exact ⟨_, rfl, hB, HS3.out⟩
set_option maxRecDepth 100000 in
theorem checkIp_calls (pA eA iA : Option Addr) (pc ec ic : Nat) (p e : List NetV) (ip : List UInt8) (w : World) (hp : NetsRd w pA p) (he : NetsRd w eA e) (hi : Byt w iA ip) (hok : (netC p e ip).Ok XIP) :
    Calls Tryz.prog 31 #[.slice pA p.length pc, .slice eA e.length ec, .slice iA ip.length ic] w fun x w' => x = .returned (.int .i64 (codeB (netBad p e ip))) ∧ Below w.heap.size w w' := by
  have hpn : p.length ≤ 1000000 ∧ ∀ n ∈ p, NetOk n := hok.pn
  have hen : e.length ≤ 1000000 ∧ ∀ n ∈ e, NetOk n := hok.en
  have hal : addrB ip = true := hok.ad ip (by simp [netC])
  have hil := addrB_len hal
  have HP := Lib.hid (networks_calls pA p pc w hp hpn.2 hpn.1)
  have HE := Lib.hid (fun (W : World) (hW : Below w.heap.size w W) => networks_calls eA e ec W (he.later hW) hen.2 hen.1)
  have HI := Lib.hid (fun (W : World) (hW : Below w.heap.size w W) => copyB_calls iA ip ic W (hi.later hW) (fun e => by rw [e] at hil; simp at hil) (by omega))
  have HZ := Lib.hid (fun vp ve vi (W : World) (hp : NetsLie p W vp) (he : NetsLie e W ve) (hi : BSl W vi ip) => zzCheckIp_calls p e ip vp ve vi W hp he hi hok)
  generalize netBad p e ip = R at *
  clear hp he hi hok hpn hen hal hil
  go_enter Tryz.func31, Tryz.ntmps31
  go_wp2_with (first
    | (go_at_call 66; (with_reducible refine HP.out.mono ?_); rintro x w1 ⟨v1, rfl, uc1, uo1, f1, b1⟩; unfold Value.cells at uc1; have HF1 := Lib.hid f1; clear f1)
    | (go_at_call 66; (with_reducible refine (HE.out _ b1).mono ?_); rintro x w2 ⟨v2, rfl, uc2, uo2, f2, b2⟩; unfold Value.cells at uc2; have B2 := b1.trans (b2.mono b1.size); have HF2 := Lib.hid f2; clear f2)
    | (go_at_call 67; (with_reducible refine (HI.out _ B2).mono ?_); rintro x w3 ⟨v3, rfl, f3, b3⟩; have B3 := B2.trans (b3.mono B2.size); have HF3 := Lib.hid f3; obtain ⟨g3, k3, rfl⟩ := f3.val; clear f3)
    | (go_at_call 65; (with_reducible refine (HZ.out _ _ _ _ ((HF1.out.later' b2).later' b3) (HF2.out.later' b3) HF3.out).mono ?_); rintro x w4 ⟨v4, rfl, b4, s4⟩; have B4 := B3.trans (b4.mono B3.size); have HC := Lib.hid (codeOf_b v4 R w4 s4); clear s4)
    | (go_at_call 39; (with_reducible refine HC.out.mono ?_); rintro x w5 ⟨rfl, rfl⟩)
    | fail)
  go_ret
  exact ⟨rfl, B4⟩
theorem NetsRd.nil (w : World) : NetsRd w none [] := ⟨fun _ => none, fun _ => none, fun _ => 0, fun _ => 0, fun h => absurd h (by simp), fun k h => absurd h (by simp)⟩
theorem AddrsRd.nil (w : World) : AddrsRd w none [] := ⟨fun _ => none, fun _ => 0, fun k h => absurd h (by simp), fun k h => absurd h (by simp)⟩
theorem CertRd.leaf {w : World} {z : GSlots} {c : GC} (h : CertRd w z c) : CertRd w z.leaf c.leaf :=
  ⟨⟨fun _ _ => .none_, NetsRd.nil w⟩, ⟨fun _ _ => .none_, NetsRd.nil w⟩, h.s, h.a⟩
theorem CertRd.by_ {w : World} {z : GSlots} {c : GC} (h : CertRd w z c) : CertRd w z.by_ c.by_ :=
  ⟨h.p, h.e, fun _ _ => .none_, AddrsRd.nil w⟩
theorem XIP_okNil : XIP.okN [] := ⟨Nat.zero_le _, fun _ h => by cases h⟩
theorem xAlone_calls (z : GSlots) (c : GC) (w : World) (hL : Laid w) (hok : c.Ok XIP) (h : CertRd w z c) :
    Calls Tryz.prog 14 #[z.val c, .int .i64 (codeB (gBad XIP c c))] w fun x w' => x = .returned (.bool true) ∧ Below w.heap.size w w' :=
  gAlone_calls XIP XIP_fit c z w hL hok XIP_okNil (fun _ hW => ((h.later hW).leaf).cert (hok.leaf XIP_okNil)) (fun _ hW => ((h.later hW).by_).cert hok.by_)
def netZ (pA eA iA : Option Addr) (pc ec : Nat) : GSlots := { pA := pick4 none none none pA, eA := pick4 none none none eA, fA := pick4 none none none iA, pc := pick4 0 0 0 pc, ec := pick4 0 0 0 ec, fc := pick4 0 0 0 1 }
theorem netC_rd {w : World} {pA eA iA : Option Addr} {pc ec ic g : Nat} {p e : List NetV} {ip : List UInt8} (hp : NetsRd w pA p) (he : NetsRd w eA e) (hi : Byt w iA ip) (hg : Blk w g 43 #[.slice iA ip.length ic]) :
    CertRd w (netZ pA eA (some ⟨g, 0, none⟩) pc ec) (netC p e ip) := by
  have h3 : ∀ (A : Option Addr) (k : Nat), k < 3 → pick4 none none none A k = none := fun A k hk => by
    match k, hk with
    | 0, _ => rfl
    | 1, _ => rfl
    | 2, _ => rfl
  refine ⟨⟨fun k hk => ?_, hp⟩, ⟨fun k hk => ?_, he⟩, fun k hk => ?_, ⟨fun _ => iA, fun _ => ic, fun k hk => ?_, fun k hk => ?_⟩⟩
  · exact .none_
  · exact .none_
  · exact .none_
  · obtain rfl : k = 0 := by simpa [netC] using hk
    exact ⟨_, rfl, hg.at_ 0 rfl⟩
  · obtain rfl : k = 0 := by simpa [netC] using hk
    exact hi
theorem netC_sz {p e : List NetV} {ip : List UInt8} (hp : p.length ≤ 2147483647 ∧ ∀ x ∈ p, x.1.length ≤ 2147483647 ∧ x.2.length ≤ 2147483647) (he : e.length ≤ 2147483647 ∧ ∀ x ∈ e, x.1.length ≤ 2147483647 ∧ x.2.length ≤ 2147483647) (hi : ip.length ≤ 2147483647) : CertSz 2147483647 (netC p e ip) :=
  ⟨⟨fun _ _ => ⟨Nat.zero_le _, fun _ h => by cases h⟩, hp⟩, ⟨fun _ _ => ⟨Nat.zero_le _, fun _ h => by cases h⟩, he⟩, fun _ _ => ⟨Nat.zero_le _, fun _ h => by cases h⟩, ⟨by simp [netC], fun x h => by simp only [netC, List.mem_singleton] at h; subst h; exact hi⟩⟩
theorem netC_val (pA eA : Option Addr) (pc ec g : Nat) (p e : List NetV) (ip : List UInt8) : (netZ pA eA (some ⟨g, 0, none⟩) pc ec).val (netC p e ip) =
    .agg #[.slice none 0 0, .slice none 0 0, .slice none 0 0, .slice pA p.length pc, .slice none 0 0, .slice none 0 0, .slice none 0 0, .slice eA e.length ec, .slice none 0 0, .slice none 0 0, .slice none 0 0, .slice (some ⟨g, 0, none⟩) 1 1] := rfl
set_option linter.unusedSimpArgs false in
set_option maxRecDepth 100000 in
set_option maxHeartbeats 4000000 in
theorem fnChainIP_calls (pA eA iA : Option Addr) (pc ec ic : Nat) (p e : List NetV) (ip : List UInt8) (w : World) (hL : Laid w) (hp : NetsRd w pA p) (he : NetsRd w eA e) (hi : Byt w iA ip)
    (sp : p.length ≤ 9000000000000000000 ∧ ∀ x ∈ p, x.1.length ≤ 9000000000000000000 ∧ x.2.length ≤ 9000000000000000000) (se : e.length ≤ 9000000000000000000 ∧ ∀ x ∈ e, x.1.length ≤ 9000000000000000000 ∧ x.2.length ≤ 9000000000000000000) (si : ip.length ≤ 9000000000000000000) :
    Calls Tryz.prog 8 #[.slice pA p.length pc, .slice eA e.length ec, .slice iA ip.length ic] w fun x w' => x = .returned (.bool true) ∧ Below w.heap.size w w' := by
  have F1 := Lib.hid (fits5_calls pA p pc w hp sp.1 sp.2)
  have F2 := Lib.hid (fun (W : World) (hW : Below w.heap.size w W) => fits5_calls eA e ec W (he.later hW) se.1 se.2)
  have KR := Lib.hid (fun (g : Nat) (W : World) (hW : Below w.heap.size w W) (hg : Blk W g 43 #[.slice iA ip.length ic]) => netC_rd (pc := pc) (ec := ec) (hp.later hW) (he.later hW) (hi.later hW) hg)
  have KC := Lib.hid (fun (hok : (netC p e ip).Ok XIP) (W : World) (hW : Below w.heap.size w W) => checkIp_calls pA eA iA pc ec ic p e ip W (hp.later hW) (he.later hW) (hi.later hW) hok)
  have HL := Lib.hid hL
  clear hp he hi sp se hL
  by_cases h0 : ip.length ≤ 2147483647
  case neg =>
    go_enter Tryz.func8, Tryz.ntmps8
    go_wp2_with (first
      | (go_at_call 30; (with_reducible refine F1.out.mono ?_); rintro x w1 ⟨q1, rfl, b1, f1⟩; clear f1 F1; cases q1)
      | (go_at_call 30; (with_reducible refine (F2.out _ b1).mono ?_); rintro x w2 ⟨q2, rfl, b2, f2⟩; have B2 := b1.trans (b2.mono b1.size); clear f2 F2; cases q2)
      | fail)
    all_goals go_ret
    all_goals first
      | exact ⟨rfl, B2⟩
      | exact ⟨rfl, b1⟩
  go_enter Tryz.func8, Tryz.ntmps8
  go_wp2_with (first
    | (go_at_call 30; (with_reducible refine F1.out.mono ?_); rintro x w1 ⟨q1, rfl, b1, f1⟩; have HF1 := Lib.hid f1; clear f1 F1; cases q1)
    | fail)
  · go_ret
    exact ⟨rfl, b1⟩
  go_wp2_with (first
    | (go_at_call 30; (with_reducible refine (F2.out _ b1).mono ?_); rintro x w2 ⟨q2, rfl, b2, f2⟩; have HF2 := Lib.hid f2; clear f2 F2; have B2 := b1.trans (b2.mono b1.size); cases q2)
    | fail)
  · go_ret
    exact ⟨rfl, B2⟩
  have hsz := netC_sz (HF1.out (by trivial)) (HF2.out (by trivial)) h0
  have hb1 := B2.alloc B2.size (.cells #[.slice iA ip.length ic] 43)
  have hz1 : (w2.alloc (.cells #[.slice iA ip.length ic] 43)).heap.size = w2.heap.size + 1 := Array.size_push _
  have hs1 := Blk.new w2 43 #[.slice iA ip.length ic]
  generalize w2.alloc (.cells #[.slice iA ip.length ic] 43) = W1 at *
  have hb2 := hb1.alloc hb1.size (.cells #[.slice none 0 0, .slice none 0 0, .slice none 0 0, .slice pA p.length pc, .slice none 0 0, .slice none 0 0, .slice none 0 0, .slice eA e.length ec, .slice none 0 0, .slice none 0 0, .slice none 0 0, .slice (some ⟨w2.heap.size, 0, none⟩) 1 1] 30)
  have hs2 := hs1.alloc (.cells #[.slice none 0 0, .slice none 0 0, .slice none 0 0, .slice pA p.length pc, .slice none 0 0, .slice none 0 0, .slice none 0 0, .slice eA e.length ec, .slice none 0 0, .slice none 0 0, .slice none 0 0, .slice (some ⟨w2.heap.size, 0, none⟩) 1 1] 30)
  have hc := Blk.new W1 30 #[.slice none 0 0, .slice none 0 0, .slice none 0 0, .slice pA p.length pc, .slice none 0 0, .slice none 0 0, .slice none 0 0, .slice eA e.length ec, .slice none 0 0, .slice none 0 0, .slice none 0 0, .slice (some ⟨w2.heap.size, 0, none⟩) 1 1]
  rw [hz1] at hc
  generalize W1.alloc (.cells #[.slice none 0 0, .slice none 0 0, .slice none 0 0, .slice pA p.length pc, .slice none 0 0, .slice none 0 0, .slice none 0 0, .slice eA e.length ec, .slice none 0 0, .slice none 0 0, .slice none 0 0, .slice (some ⟨w2.heap.size, 0, none⟩) 1 1] 30) = W2 at *
  have KO := Lib.hid (fun (W : World) (hW : Below w.heap.size w W) (hS : Blk W w2.heap.size 43 #[.slice iA ip.length ic]) => certOk_calls (netZ pA eA (some ⟨w2.heap.size, 0, none⟩) pc ec) (netC p e ip) W (KR.out w2.heap.size W hW hS) hsz)
  have KA := Lib.hid (fun (hok : (netC p e ip).Ok XIP) (W : World) (hW : Below w.heap.size w W) (hS : Blk W w2.heap.size 43 #[.slice iA ip.length ic]) => xAlone_calls (netZ pA eA (some ⟨w2.heap.size, 0, none⟩) pc ec) (netC p e ip) W (HL.out.keep hW) hok (KR.out w2.heap.size W hW hS))
  simp only [netC_val, netC_bad] at KO KA
  have HB2 := Lib.hid hb2
  have HS2 := Lib.hid hs2
  have HC2 := Lib.hid hc
  clear hsz hb1 hz1 hs1 HF1 HF2 KR HL b1 b2 B2 hb2 hs2 hc
  cases hB : certB (netC p e ip) with
  | false =>
    rw [hB] at KO
    clear KC KA hB
    refine wp_region_noPanic ?_
    refine wp_region_held_drew (S := (fun W => W.cell? ⟨w2.heap.size + 1, 0, none⟩ = some (.slice none 0 0) ∧ W.cell? ⟨w2.heap.size + 1, 1, none⟩ = some (.slice none 0 0) ∧ W.cell? ⟨w2.heap.size + 1, 2, none⟩ = some (.slice none 0 0) ∧ W.cell? ⟨w2.heap.size + 1, 3, none⟩ = some (.slice pA p.length pc) ∧ W.cell? ⟨w2.heap.size + 1, 4, none⟩ = some (.slice none 0 0) ∧ W.cell? ⟨w2.heap.size + 1, 5, none⟩ = some (.slice none 0 0) ∧ W.cell? ⟨w2.heap.size + 1, 6, none⟩ = some (.slice none 0 0) ∧ W.cell? ⟨w2.heap.size + 1, 7, none⟩ = some (.slice eA e.length ec) ∧ W.cell? ⟨w2.heap.size + 1, 8, none⟩ = some (.slice none 0 0) ∧ W.cell? ⟨w2.heap.size + 1, 9, none⟩ = some (.slice none 0 0) ∧ W.cell? ⟨w2.heap.size + 1, 10, none⟩ = some (.slice none 0 0) ∧ W.cell? ⟨w2.heap.size + 1, 11, none⟩ = some (.slice (some ⟨w2.heap.size, 0, none⟩) 1 1))) (by kernel_rfl) ?h0 (fun hHeld0 => ?_)
    case h0 => exact cells12' HC2.out.drew
    refine wpAnyH_take (i := 0) (oi := { dst := some 28, op := _, type := _, pos := _, after := _, guard := _ }) (v := ?v0) rfl (by kernel_rfl) (by kernel_rfl) (by kernel_rfl) (fun _ _ _ h => h) (Or.inl ⟨by rfl, ?y0⟩) (by assumption) ?r0
    case y0 => (intro W hSw; (try dsimp only at hSw); go_simp; try with_reducible rfl)
    (try simp only [Act.put, List.setIfInBounds_toArray, List.set_cons_zero, List.set_cons_succ])
    refine wpAnyH_ready (rs := [1]) (by kernel_rfl) (by simp) ?_
    refine AllReadyH.cons (o := _) rfl (fun K hK => ?s1) AllReadyH.nil
    go_simp
    (go_at_call 19; (with_reducible refine (KO.out _ HB2.out.drew HS2.out.drew).mono ?_); rintro x u1 ⟨rfl, q1⟩; have d1 := HC2.out.drew.later q1; have f1 := HB2.out.drew.trans (q1.mono HB2.out.drew.size))
    (try go_wp2_with (fail))
    refine hK.out _ _ ?k1 (fun hHeld1 => ?m1)
    case k1 => exact cells12' d1
    clear hK K hHeld0
    (try simp only [Act.put, List.setIfInBounds_toArray, List.set_cons_zero, List.set_cons_succ])
    refine wpAnyH_take (i := 2) (oi := { dst := some 30, op := _, type := _, pos := _, after := _, guard := _ }) (v := ?v2) rfl (by kernel_rfl) (by kernel_rfl) (by kernel_rfl) (fun _ _ _ h => h) (Or.inl ⟨by rfl, ?y2⟩) (by assumption) ?r2
    case y2 => (intro W hSw; (try dsimp only at hSw); go_simp; try with_reducible rfl)
    (try simp only [Act.put, List.setIfInBounds_toArray, List.set_cons_zero, List.set_cons_succ])
    refine wpAnyH_take (i := 3) (oi := { dst := some 31, op := _, type := _, pos := _, after := _, guard := _ }) (v := ?v3) rfl (by kernel_rfl) (by kernel_rfl) (by kernel_rfl) (fun _ _ _ h => h) (Or.inl ⟨by rfl, ?y3⟩) (by assumption) ?r3
    case y3 => (intro W hSw; (try dsimp only at hSw); go_simp; try with_reducible rfl)
    (try simp only [Act.put, List.setIfInBounds_toArray, List.set_cons_zero, List.set_cons_succ])
    refine wpAnyH_take (i := 4) (oi := { dst := some 32, op := _, type := _, pos := _, after := _, guard := _ }) (v := undef) rfl (by kernel_rfl) (by kernel_rfl) (by kernel_rfl) (fun _ _ _ h => h) (Or.inr ⟨by rfl, rfl⟩) (by assumption) ?_
    (try simp only [Act.put, List.setIfInBounds_toArray, List.set_cons_zero, List.set_cons_succ])
    refine wpAnyH_take (i := 5) (oi := { dst := some 33, op := _, type := _, pos := _, after := _, guard := _ }) (v := undef) rfl (by kernel_rfl) (by kernel_rfl) (by kernel_rfl) (fun _ _ _ h => h) (Or.inr ⟨by rfl, rfl⟩) (by assumption) ?_
    (try simp only [Act.put, List.setIfInBounds_toArray, List.set_cons_zero, List.set_cons_succ])
    refine wpAnyH_take (i := 6) (oi := { dst := some 34, op := _, type := _, pos := _, after := _, guard := _ }) (v := undef) rfl (by kernel_rfl) (by kernel_rfl) (by kernel_rfl) (fun _ _ _ h => h) (Or.inr ⟨by rfl, rfl⟩) (by assumption) ?_
    (try simp only [Act.put, List.setIfInBounds_toArray, List.set_cons_zero, List.set_cons_succ])
    refine wpAnyH_take (i := 7) (oi := { dst := some 35, op := _, type := _, pos := _, after := _, guard := _ }) (v := undef) rfl (by kernel_rfl) (by kernel_rfl) (by kernel_rfl) (fun _ _ _ h => h) (Or.inr ⟨by rfl, rfl⟩) (by assumption) ?_
    (try simp only [Act.put, List.setIfInBounds_toArray, List.set_cons_zero, List.set_cons_succ])
    refine wpAnyH_take (i := 8) (oi := { dst := some 36, op := _, type := _, pos := _, after := _, guard := _ }) (v := undef) rfl (by kernel_rfl) (by kernel_rfl) (by kernel_rfl) (fun _ _ _ h => h) (Or.inr ⟨by rfl, rfl⟩) (by assumption) ?_
    (try simp only [Act.put, List.setIfInBounds_toArray, List.set_cons_zero, List.set_cons_succ])
    refine wpAnyH_take (i := 9) (oi := { dst := some 37, op := _, type := _, pos := _, after := _, guard := _ }) (v := undef) rfl (by kernel_rfl) (by kernel_rfl) (by kernel_rfl) (fun _ _ _ h => h) (Or.inr ⟨by rfl, rfl⟩) (by assumption) ?_
    (try simp only [Act.put, List.setIfInBounds_toArray, List.set_cons_zero, List.set_cons_succ])
    refine wpAnyH_take (i := 10) (oi := { dst := some 38, op := _, type := _, pos := _, after := _, guard := _ }) (v := ?v10) rfl (by kernel_rfl) (by kernel_rfl) (by kernel_rfl) (fun _ _ _ h => h) (Or.inl ⟨by rfl, ?y10⟩) (by assumption) ?r10
    case y10 => (intro W hSw; (try dsimp only at hSw); go_simp; try with_reducible rfl)
    (try simp only [Act.put, List.setIfInBounds_toArray, List.set_cons_zero, List.set_cons_succ])
    refine wpAnyH_take (i := 11) (oi := { dst := some 6, op := _, type := _, pos := _, after := _, guard := _ }) (v := ?v11) rfl (by kernel_rfl) (by kernel_rfl) (by kernel_rfl) (fun _ _ _ h => h) (Or.inl ⟨by rfl, ?y11⟩) (by assumption) ?r11
    case y11 => (intro W hSw; (try dsimp only at hSw); go_simp; try with_reducible rfl)
    (try simp only [Act.put, List.setIfInBounds_toArray, List.set_cons_zero, List.set_cons_succ])
    refine wpAnyH_done (by kernel_rfl) ?_ _
    refine NoPanic.normal ?_
    go_wp2
    go_ret
    exact ⟨rfl, f1⟩
  | true =>
    have hok := (certB_ok hB).1
    have KC2 := Lib.hid (KC.out hok)
    have KA2 := Lib.hid (KA.out hok)
    rw [hB] at KO
    clear KC KA hB hok
    generalize netBad p e ip = R at *
    go_region_held3 (fun W => W.cell? ⟨w2.heap.size + 1, 0, none⟩ = some (.slice none 0 0) ∧ W.cell? ⟨w2.heap.size + 1, 1, none⟩ = some (.slice none 0 0) ∧ W.cell? ⟨w2.heap.size + 1, 2, none⟩ = some (.slice none 0 0) ∧ W.cell? ⟨w2.heap.size + 1, 3, none⟩ = some (.slice pA p.length pc) ∧ W.cell? ⟨w2.heap.size + 1, 4, none⟩ = some (.slice none 0 0) ∧ W.cell? ⟨w2.heap.size + 1, 5, none⟩ = some (.slice none 0 0) ∧ W.cell? ⟨w2.heap.size + 1, 6, none⟩ = some (.slice none 0 0) ∧ W.cell? ⟨w2.heap.size + 1, 7, none⟩ = some (.slice eA e.length ec) ∧ W.cell? ⟨w2.heap.size + 1, 8, none⟩ = some (.slice none 0 0) ∧ W.cell? ⟨w2.heap.size + 1, 9, none⟩ = some (.slice none 0 0) ∧ W.cell? ⟨w2.heap.size + 1, 10, none⟩ = some (.slice none 0 0) ∧ W.cell? ⟨w2.heap.size + 1, 11, none⟩ = some (.slice (some ⟨w2.heap.size, 0, none⟩) 1 1))
      (first | exact cells12' HC2.out.drew | exact cells12' d1 | exact cells12' d2 | exact cells12' d3)
      (first
        | (go_at_call 19; (with_reducible refine (KO.out _ HB2.out.drew HS2.out.drew).mono ?_); rintro x u1 ⟨rfl, q1⟩; have d1 := HC2.out.drew.later q1; have e1 := HS2.out.drew.later q1; have f1 := HB2.out.drew.trans (q1.mono HB2.out.drew.size))
        | (go_at_call 31; (with_reducible refine (KC2.out _ f1).mono ?_); rintro x u2 ⟨rfl, q2⟩; have d2 := d1.later q2; have e2 := e1.later q2; have f2 := f1.trans (q2.mono f1.size))
        | (go_at_call 14; (with_reducible refine (KA2.out _ f2 e2).mono ?_); rintro x u3 ⟨rfl, q3⟩; have d3 := d2.later q3; have f3 := f2.trans (q3.mono f2.size)))
    go_wp2
    go_ret
    exact ⟨rfl, f3⟩
end Go.Proofs.YtblabjfjhlablaaGreatDoor
