/- The walk of check: a refusal just where some name is refused. -/
import Derived.Test.YtblabjfjhlablaaGreatDoorW12
import Derived.Test.YtblabjfjhlablaaGreatDoorNm
namespace Go.Proofs.YtblabjfjhlablaaGreatDoor
open Go.RowKit Nc
/-- A slice value whose n elements of some cells each are xs k, one after the other. -/
def Reads1 (w : World) (t : TypeId) (v : Value) (n : Nat) (x : Nat → Value) : Prop :=
  ∃ A c, v = .slice A n c ∧ (0 < n → ∃ (g : Nat) (cur : Array Value), A = some ⟨g, 0, none⟩ ∧ Blk w g t cur ∧ ∀ k, k < n → cur[k]? = some (x k))
def Reads2 (w : World) (t : TypeId) (v : Value) (n : Nat) (x y : Nat → Value) : Prop :=
  ∃ A c, v = .slice A n c ∧ (0 < n → ∃ (g : Nat) (cur : Array Value), A = some ⟨g, 0, none⟩ ∧ Blk w g t cur ∧ ∀ k, k < n → cur[k * 2]? = some (x k) ∧ cur[k * 2 + 1]? = some (y k))
theorem Reads1.later {w w' : World} {t : TypeId} {v : Value} {n : Nat} {x : Nat → Value} (h : Reads1 w t v n x) (hb : Below w.heap.size w w') : Reads1 w' t v n x := by
  obtain ⟨A, c, h1, h2⟩ := h
  exact ⟨A, c, h1, fun hn => by obtain ⟨g, cur, e, b, r⟩ := h2 hn; exact ⟨g, cur, e, b.later hb, r⟩⟩
theorem Reads2.later {w w' : World} {t : TypeId} {v : Value} {n : Nat} {x y : Nat → Value} (h : Reads2 w t v n x y) (hb : Below w.heap.size w w') : Reads2 w' t v n x y := by
  obtain ⟨A, c, h1, h2⟩ := h
  exact ⟨A, c, h1, fun hn => by obtain ⟨g, cur, e, b, r⟩ := h2 hn; exact ⟨g, cur, e, b.later hb, r⟩⟩
/-- What is known of the names that a check goes through. -/
structure NamesData where
  nIp : Nat
  nDns : Nat
  nUri : Nat
  nMail : Nat
  ipv : Nat → Value
  dn : Nat → ByteArray
  uo : Nat → ByteArray
  ud : Nat → ByteArray
  ml : Nat → ByteArray
  md : Nat → ByteArray
  ipb : Nat → Bool
  dnb : Nat → Bool
  urb : Nat → Bool
  mab : Nat → Bool
/-- The cells of constraints, whatever their kinds are called. -/
def ccT (T : Nat → ByteArray) (a : Nat → Value) (i : Nat) (nx : Value) : Array Value := #[.string (T 0), a 0, a 1, .string (T 1), a 2, a 3, .string (T 2), a 4, a 5, .string (T 3), a 6, a 7, .int .i64 i, nx]
def stdT (k : Nat) : ByteArray := match k with | 0 => txIP | 1 => txDNS | 2 => txURI | _ => txMail
structure NamesOk (d : NamesData) (T : Nat → ByteArray) (a : Nat → Value) (w : World) : Prop where
  sizes : d.nIp ≤ 1000000 ∧ d.nDns ≤ 1000000 ∧ d.nUri ≤ 1000000 ∧ d.nMail ≤ 1000000
  ip1 : ∀ k, k < d.nIp → (d.ipv k).cells = #[d.ipv k] ∧ (d.ipv k).oneCell' = true
  ip : ∀ k, k < d.nIp → ∀ W, Below w.heap.size w W → Calls Tryz.prog 106 #[.agg #[.string (T 0), a 0, a 1], d.ipv k, d.ipv k] W (Says (d.ipb k) W)
  dns0 : ∀ k, k < d.nDns → (d.dn k).size ≤ 1000000 ∧ dnv (d.dn k) = true
  dns : ∀ k, k < d.nDns → ∀ W, Below w.heap.size w W → Calls Tryz.prog 109 #[.agg #[.string (T 1), a 2, a 3], .string (d.dn k), .string (d.dn k)] W (Says (d.dnb k) W)
  uri0 : ∀ k, k < d.nUri → (d.ud k).size ≤ 1000000 ∧ dnv (d.ud k) = true
  uri : ∀ k, k < d.nUri → ∀ W, Below w.heap.size w W → Calls Tryz.prog 110 #[.agg #[.string (T 2), a 4, a 5], .string (d.ud k), .agg #[.string (d.uo k), .string (d.ud k)]] W (Says (d.urb k) W)
  mail0 : ∀ k, k < d.nMail → (d.md k).size ≤ 1000000 ∧ dnv (d.md k) = true
  mail : ∀ k, k < d.nMail → ∀ W, Below w.heap.size w W → Calls Tryz.prog 111 #[.agg #[.string (T 3), a 6, a 7], .agg #[.string (d.ml k), .string (d.md k)], .agg #[.string (d.ml k), .string (d.md k)]] W (Says (d.mab k) W)
theorem cc_cells {T : Nat → ByteArray} {W : World} {b : Nat} {a : Nat → Value} {i : Nat} {nx : Value} (h : Blk W b 100 (ccT T a i nx)) :
    W.cell? ⟨b, 0, none⟩ = some (.string (T 0)) ∧ W.cell? ⟨b, 1, none⟩ = some (a 0) ∧ W.cell? ⟨b, 2, none⟩ = some (a 1) ∧ W.cell? ⟨b, 3, none⟩ = some (.string (T 1)) ∧ W.cell? ⟨b, 4, none⟩ = some (a 2) ∧ W.cell? ⟨b, 5, none⟩ = some (a 3) ∧
    W.cell? ⟨b, 6, none⟩ = some (.string (T 2)) ∧ W.cell? ⟨b, 7, none⟩ = some (a 4) ∧ W.cell? ⟨b, 8, none⟩ = some (a 5) ∧ W.cell? ⟨b, 9, none⟩ = some (.string (T 3)) ∧ W.cell? ⟨b, 10, none⟩ = some (a 6) ∧ W.cell? ⟨b, 11, none⟩ = some (a 7) :=
  ⟨h.at_ 0 rfl, h.at_ 1 rfl, h.at_ 2 rfl, h.at_ 3 rfl, h.at_ 4 rfl, h.at_ 5 rfl, h.at_ 6 rfl, h.at_ 7 rfl, h.at_ 8 rfl, h.at_ 9 rfl, h.at_ 10 rfl, h.at_ 11 rfl⟩
set_option maxRecDepth 100000 in
set_option maxHeartbeats 4000000 in
theorem check_calls (d : NamesData) (T : Nat → ByteArray) (a : Nat → Value) (j b : Nat) (nx v1 v2 v3 v4 : Value) (w : World) (ok : NamesOk d T a w) (hb : Blk w b 100 (ccT T a j nx))
    (h4 : Reads1 w 80 v4 d.nIp d.ipv) (h1 : Reads1 w 9 v1 d.nDns (fun k => .string (d.dn k))) (h2 : Reads2 w 145 v2 d.nUri (fun k => .string (d.uo k)) (fun k => .string (d.ud k))) (h3 : Reads2 w 148 v3 d.nMail (fun k => .string (d.ml k)) (fun k => .string (d.md k)))
    (R : Bool) (hTi : ∀ k, k < d.nIp → d.ipb k = true → R = true) (hTd : ∀ k, k < d.nDns → d.dnb k = true → R = true) (hTu : ∀ k, k < d.nUri → d.urb k = true → R = true) (hTm : ∀ k, k < d.nMail → d.mab k = true → R = true)
    (hF : (∀ k, k < d.nIp → d.ipb k = false) → (∀ k, k < d.nDns → d.dnb k = false) → (∀ k, k < d.nUri → d.urb k = false) → (∀ k, k < d.nMail → d.mab k = false) → R = false) :
    Calls Tryz.prog 74 #[.pointer (some ⟨b, 0, none⟩), v1, v2, v3, v4] w (Says R w) := by
  obtain ⟨A1, c1, rfl, r1⟩ := h1
  obtain ⟨A2, c2, rfl, r2⟩ := h2
  obtain ⟨A3, c3, rfl, r3⟩ := h3
  obtain ⟨A4, c4, rfl, r4⟩ := h4
  have R1 := Lib.hid r1
  have R2 := Lib.hid r2
  have R3 := Lib.hid r3
  have R4 := Lib.hid r4
  have OK := Lib.hid ok
  obtain ⟨z1, z2, z3, z4⟩ := ok.sizes
  have HTi := Lib.hid hTi
  have HTd := Lib.hid hTd
  have HTu := Lib.hid hTu
  have HTm := Lib.hid hTm
  have HF := Lib.hid hF
  clear r1 r2 r3 r4 ok hTi hTd hTu hTm hF
  go_enter Tryz.func74, Tryz.ntmps74
  go_wp2
  go_loopw [25] (fun i wr => ∃ k : Nat, i = .int .i64 k ∧ k ≤ d.nIp ∧ Below w.heap.size w wr ∧ Hid (∀ m, m < k → d.ipb m = false)) (fun i _ => d.nIp - (intOf i).toNat)
  case atStart => exact ⟨0, rfl, Nat.zero_le _, Below.refl _ _, fun m h => absurd h (Nat.not_lt_zero _)⟩
  case round =>
    obtain ⟨k, rfl, hk, hbr, hcl⟩ := hrel
    obtain ⟨e0, e1, e2, e3, e4, e5, e6, e7, e8, e9, e10, e11⟩ := cc_cells (hb.later hbr)
    by_cases hlt : k < d.nIp
    · obtain ⟨g, cur, rfl, hg, hx⟩ := R4.out (by omega)
      have cx := (hg.later hbr).at_ k (hx k hlt)
      have hq := OK.out.ip k hlt
      obtain ⟨o1, o2⟩ := OK.out.ip1 k hlt
      generalize hv : d.ipv k = vk at *
      have HQ := Lib.hid hq
      clear hq hv
      go_wp2_with (fail)
      refine (HQ.out _ hbr).mono ?_
      rintro e w9 ⟨v9, rfl, b9, s9⟩
      clear cx HQ o1 o2 e0 e1 e2 e3 e4 e5 e6 e7 e8 e9 e10 e11
      have hbw := hbr.trans (b9.mono hbr.size)
      rcases s9 with ⟨hbad, rfl⟩ | ⟨hbad, href⟩
      · have hcl2 : Hid (∀ m, m < k + 1 → d.ipb m = false) := fun m hm => by
          by_cases e : m = k
          · subst e; exact hbad
          · exact hcl.out m (by omega)
        clear hbad hcl
        go_wp2
        go_roundw
        case rel => exact ⟨k + 1, by go_num, by omega, hbw, hcl2⟩
        case measure => simp only [intOf]; omega
      · have hR : R = true := HTi.out k hlt hbad
        subst hR
        obtain ⟨E, rfl⟩ := href.iface
        clear hbad
        go_wp2
        go_ret
        exact ⟨_, rfl, hbw, .inr ⟨rfl, href⟩⟩
    · obtain rfl : k = d.nIp := by omega
      have ipbF := hcl
      clear hcl e0 e1 e2 e3 e4 e5 e6 e7 e8 e9 e10 e11
      go_wp2
      go_loopw [42] (fun i wr => ∃ k : Nat, i = .int .i64 k ∧ k ≤ d.nDns ∧ Below w.heap.size w wr ∧ Hid (∀ m, m < k → d.dnb m = false)) (fun i _ => d.nDns - (intOf i).toNat)
      case atStart => exact ⟨0, rfl, Nat.zero_le _, hbr, fun m h => absurd h (Nat.not_lt_zero _)⟩
      case round =>
        clear hbr
        obtain ⟨k, rfl, hk, hbr, hcl⟩ := hrel
        obtain ⟨e0, e1, e2, e3, e4, e5, e6, e7, e8, e9, e10, e11⟩ := cc_cells (hb.later hbr)
        by_cases hlt : k < d.nDns
        · obtain ⟨g, cur, rfl, hg, hx⟩ := R1.out (by omega)
          have cx := (hg.later hbr).at_ k (hx k hlt)
          have hq := OK.out.dns k hlt
          obtain ⟨q1, q2⟩ := OK.out.dns0 k hlt
          have hd := fun W => dnv_calls (d.dn k) W (by omega)
          rw [q2] at hd
          generalize hv : d.dn k = vk at *
          have HQ := Lib.hid hq
          have HD := Lib.hid hd
          clear hq hv hd q2
          go_wp2_with (fail)
          refine (HD.out _).mono ?_
          rintro e w8 ⟨rfl, rfl⟩
          go_wp2_with (fail)
          refine (HQ.out _ hbr).mono ?_
          rintro e w9 ⟨v9, rfl, b9, s9⟩
          clear cx HQ HD e0 e1 e2 e3 e4 e5 e6 e7 e8 e9 e10 e11
          have hbw := hbr.trans (b9.mono hbr.size)
          rcases s9 with ⟨hbad, rfl⟩ | ⟨hbad, href⟩
          · have hcl2 : Hid (∀ m, m < k + 1 → d.dnb m = false) := fun m hm => by
              by_cases e : m = k
              · subst e; exact hbad
              · exact hcl.out m (by omega)
            clear hbad hcl
            go_wp2
            go_roundw
            case rel => exact ⟨k + 1, by go_num, by omega, hbw, hcl2⟩
            case measure => simp only [intOf]; omega
          · have hR : R = true := HTd.out k hlt hbad
            subst hR
            obtain ⟨E, rfl⟩ := href.iface
            clear hbad
            go_wp2
            go_ret
            exact ⟨_, rfl, hbw, .inr ⟨rfl, href⟩⟩
        · obtain rfl : k = d.nDns := by omega
          have dnbF := hcl
          clear hcl e0 e1 e2 e3 e4 e5 e6 e7 e8 e9 e10 e11
          go_wp2
          go_loopw [63] (fun i wr => ∃ k : Nat, i = .int .i64 k ∧ k ≤ d.nUri ∧ Below w.heap.size w wr ∧ Hid (∀ m, m < k → d.urb m = false)) (fun i _ => d.nUri - (intOf i).toNat)
          case atStart => exact ⟨0, rfl, Nat.zero_le _, hbr, fun m h => absurd h (Nat.not_lt_zero _)⟩
          case round =>
            clear hbr
            obtain ⟨k, rfl, hk, hbr, hcl⟩ := hrel
            by_cases hlt : k < d.nUri
            · obtain ⟨g, cur, rfl, hg, hx⟩ := R2.out (by omega)
              have cx := (hg.later hbr).at_ (k * 2) (hx k hlt).1
              have cy := (hg.later hbr).at_ (k * 2 + 1) (hx k hlt).2
              have hq := OK.out.uri k hlt
              obtain ⟨q1, q2⟩ := OK.out.uri0 k hlt
              have hd := fun W => dnv_calls (d.ud k) W (by omega)
              rw [q2] at hd
              generalize hv : d.ud k = vk at *
              generalize hv2 : d.uo k = uk at *
              have HQ := Lib.hid hq
              have HD := Lib.hid hd
              clear hq hv hv2 hd q2
              go_wp2_with (fail)
              refine (HD.out _).mono ?_
              rintro e w8 ⟨rfl, rfl⟩
              have hbr2 : Below w.heap.size w (wr.alloc (.cells #[Value.string uk, Value.string vk] 145)) := hbr.alloc hbr.size _
              have hnew := Blk.new wr 145 #[Value.string uk, Value.string vk]
              have hbb := (hb.later hbr).alloc (.cells #[Value.string uk, Value.string vk] 145)
              have n0 := hnew.at_ 0 rfl
              have n1 := hnew.at_ 1 rfl
              obtain ⟨e0, e1, e2, e3, e4, e5, e6, e7, e8, e9, e10, e11⟩ := cc_cells hbb
              clear cx cy HD hbr
              generalize wr.alloc (.cells #[Value.string uk, Value.string vk] 145) = wn at *
              generalize wr.heap.size = N at *
              go_wp2
              go_region_held3 (fun W => W.cell? ⟨b, 6, none⟩ = some (.string (T 2)) ∧ W.cell? ⟨b, 6 + 1, none⟩ = some (a 4) ∧ W.cell? ⟨b, 6 + 2, none⟩ = some (a 5) ∧ W.cell? ⟨N, 0, none⟩ = some (.string uk) ∧ W.cell? ⟨N, 1, none⟩ = some (.string vk))
                (first | exact ⟨e6, e7, e8, n0, n1⟩ | exact ⟨cell_keep b9 e6, cell_keep b9 e7, cell_keep b9 e8, cell_keep b9 n0, cell_keep b9 n1⟩)
                (first | (go_at_call 110; refine (HQ.out _ hbr2.drew).mono ?_; rintro e w9 ⟨v9, rfl, b9, s9⟩))
              clear n0 n1 HQ e0 e1 e2 e3 e4 e5 e6 e7 e8 e9 e10 e11
              have hbw := hbr2.drew.trans (b9.mono hbr2.size)
              clear b9 hbr2
              rcases s9 with ⟨hbad, rfl⟩ | ⟨hbad, href⟩
              · have hcl2 : Hid (∀ m, m < k + 1 → d.urb m = false) := fun m hm => by
                  by_cases e : m = k
                  · subst e; exact hbad
                  · exact hcl.out m (by omega)
                clear hbad hcl
                go_wp2
                go_roundw
                case rel => exact ⟨k + 1, by go_num, by omega, hbw, hcl2⟩
                case measure => simp only [intOf]; omega
              · have hR : R = true := HTu.out k hlt hbad
                subst hR
                obtain ⟨E, rfl⟩ := href.iface
                clear hbad
                go_wp2
                go_ret
                exact ⟨_, rfl, hbw, .inr ⟨rfl, href⟩⟩
            · obtain rfl : k = d.nUri := by omega
              have urbF := hcl
              clear hcl
              go_wp2
              go_loopw [86] (fun i wr => ∃ k : Nat, i = .int .i64 k ∧ k ≤ d.nMail ∧ Below w.heap.size w wr ∧ Hid (∀ m, m < k → d.mab m = false)) (fun i _ => d.nMail - (intOf i).toNat)
              case atStart => exact ⟨0, rfl, Nat.zero_le _, hbr, fun m h => absurd h (Nat.not_lt_zero _)⟩
              case round =>
                clear hbr
                obtain ⟨k, rfl, hk, hbr, hcl⟩ := hrel
                by_cases hlt : k < d.nMail
                · obtain ⟨g, cur, rfl, hg, hx⟩ := R3.out (by omega)
                  have cx := (hg.later hbr).at_ (k * 2) (hx k hlt).1
                  have cy := (hg.later hbr).at_ (k * 2 + 1) (hx k hlt).2
                  have hq := OK.out.mail k hlt
                  obtain ⟨q1, q2⟩ := OK.out.mail0 k hlt
                  have hd := fun W => dnv_calls (d.md k) W (by omega)
                  rw [q2] at hd
                  generalize hv : d.md k = vk at *
                  generalize hv2 : d.ml k = uk at *
                  have HQ := Lib.hid hq
                  have HD := Lib.hid hd
                  clear hq hv hv2 hd q2
                  go_wp2_with (fail)
                  refine (HD.out _).mono ?_
                  rintro e w8 ⟨rfl, rfl⟩
                  have hbr2 : Below w.heap.size w (wr.alloc (.cells #[Value.string uk, Value.string vk] 148)) := hbr.alloc hbr.size _
                  have hnew := Blk.new wr 148 #[Value.string uk, Value.string vk]
                  have hbb := (hb.later hbr).alloc (.cells #[Value.string uk, Value.string vk] 148)
                  have n0 := hnew.at_ 0 rfl
                  have n1 := hnew.at_ 1 rfl
                  obtain ⟨e0, e1, e2, e3, e4, e5, e6, e7, e8, e9, e10, e11⟩ := cc_cells hbb
                  clear cx cy HD hbr
                  generalize wr.alloc (.cells #[Value.string uk, Value.string vk] 148) = wn at *
                  generalize wr.heap.size = N at *
                  go_wp2
                  go_region_held3 (fun W => W.cell? ⟨b, 9, none⟩ = some (.string (T 3)) ∧ W.cell? ⟨b, 9 + 1, none⟩ = some (a 6) ∧ W.cell? ⟨b, 9 + 2, none⟩ = some (a 7) ∧ W.cell? ⟨N, 0, none⟩ = some (.string uk) ∧ W.cell? ⟨N, 1, none⟩ = some (.string vk))
                    (first | exact ⟨e9, e10, e11, n0, n1⟩ | exact ⟨cell_keep b9 e9, cell_keep b9 e10, cell_keep b9 e11, cell_keep b9 n0, cell_keep b9 n1⟩)
                    (first | (go_at_call 111; refine (HQ.out _ hbr2.drew).mono ?_; rintro e w9 ⟨v9, rfl, b9, s9⟩))
                  clear n0 n1 HQ e0 e1 e2 e3 e4 e5 e6 e7 e8 e9 e10 e11
                  have hbw := hbr2.drew.trans (b9.mono hbr2.size)
                  clear b9 hbr2
                  rcases s9 with ⟨hbad, rfl⟩ | ⟨hbad, href⟩
                  · have hcl2 : Hid (∀ m, m < k + 1 → d.mab m = false) := fun m hm => by
                      by_cases e : m = k
                      · subst e; exact hbad
                      · exact hcl.out m (by omega)
                    clear hbad hcl
                    go_wp2
                    go_roundw
                    case rel => exact ⟨k + 1, by go_num, by omega, hbw, hcl2⟩
                    case measure => simp only [intOf]; omega
                  · have hR : R = true := HTm.out k hlt hbad
                    subst hR
                    obtain ⟨E, rfl⟩ := href.iface
                    clear hbad
                    go_wp2
                    go_ret
                    exact ⟨_, rfl, hbw, .inr ⟨rfl, href⟩⟩
                · obtain rfl : k = d.nMail := by omega
                  have mabF := hcl
                  clear hcl
                  go_wp2
                  have hR : R = false := HF.out ipbF.out dnbF.out urbF.out mabF.out
                  subst hR
                  go_ret
                  exact ⟨_, rfl, hbr, .inl ⟨rfl, rfl⟩⟩
end Go.Proofs.YtblabjfjhlablaaGreatDoor
