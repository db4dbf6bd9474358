/- The walk of checkChainConstraints: a refusal just where a name of a certificate is refused by the constraints of one behind it. -/
import Derived.Test.YtblabjfjhlablaaGreatDoorW11
namespace Go.Proofs.YtblabjfjhlablaaGreatDoor
open Go.RowKit Nc
theorem CCs.some_last {L : List (Nat × Nat)} (h : L ≠ []) : ∃ li lb, L.getLast? = some (li, lb) := by
  cases hl : L.getLast? with
  | none => exact absurd (List.getLast?_eq_none_iff.1 hl) h
  | some p => exact ⟨p.1, p.2, rfl⟩
theorem cells8 {W : World} {C : Nat} {nc hn : Bool} {c : Nat → Value} (h : Blk W C 116 (certCells nc hn c)) :
    W.cell? ⟨C, 2, none⟩ = some (c 2) ∧ W.cell? ⟨C, 3, none⟩ = some (c 3) ∧ W.cell? ⟨C, 4, none⟩ = some (c 4) ∧ W.cell? ⟨C, 5, none⟩ = some (c 5) ∧ W.cell? ⟨C, 6, none⟩ = some (c 6) ∧ W.cell? ⟨C, 7, none⟩ = some (c 7) ∧ W.cell? ⟨C, 8, none⟩ = some (c 8) ∧ W.cell? ⟨C, 9, none⟩ = some (c 9) :=
  ⟨h.at_ 2 rfl, h.at_ 3 rfl, h.at_ 4 rfl, h.at_ 5 rfl, h.at_ 6 rfl, h.at_ 7 rfl, h.at_ 8 rfl, h.at_ 9 rfl⟩
theorem Upto.has {d : ChainData} {L : List (Nat × Nat)} (h : Upto d d.n L) {j : Nat} (hj : j < d.n) (hc : d.nc j = true) : ∃ (u b : Nat), L[u]? = some (j, b) := by
  have : j ∈ L.map (·.1) := by rw [h.1]; exact List.mem_filter.2 ⟨List.mem_range.2 hj, hc⟩
  obtain ⟨p, hp, rfl⟩ := List.mem_map.1 this
  obtain ⟨u, hu, he⟩ := List.getElem_of_mem hp
  exact ⟨u, p.2, by rw [List.getElem?_eq_getElem hu, he]⟩
theorem Upto.is {d : ChainData} {L : List (Nat × Nat)} (h : Upto d d.n L) {u i b : Nat} (hu : L[u]? = some (i, b)) : i < d.n ∧ d.nc i = true := by
  have hm : i ∈ L.map (·.1) := List.mem_map.2 ⟨(i, b), List.mem_of_getElem? hu, rfl⟩
  rw [h.1] at hm
  have := List.mem_filter.1 hm
  exact ⟨List.mem_range.1 this.1, this.2⟩
theorem Upto.lt {d : ChainData} {L : List (Nat × Nat)} (h : Upto d d.n L) {u u' i i' b b' : Nat} (hu : L[u]? = some (i, b)) (hu' : L[u']? = some (i', b')) (hlt : u < u') : i < i' := by
  have hp : (L.map (·.1)).Pairwise (· < ·) := by rw [h.1]; exact List.Pairwise.filter _ List.pairwise_lt_range
  have l1 := (List.getElem?_eq_some_iff.1 hu).1
  have l2 := (List.getElem?_eq_some_iff.1 hu').1
  have := List.pairwise_iff_getElem.1 hp u u' (by simpa using l1) (by simpa using l2) hlt
  simp only [List.getElem_map] at this
  rw [List.getElem?_eq_getElem l1] at hu
  rw [List.getElem?_eq_getElem l2] at hu'
  rw [Option.some.inj hu, Option.some.inj hu'] at this
  exact this
theorem cc_idx {W : World} {b : Nat} {a : Nat → Value} {i : Nat} {nx : Value} (h : Blk W b 100 (ccCells a i nx)) : W.cell? ⟨b, 12, none⟩ = some (.int .i64 (i : Int)) := h.at_ 12 rfl
theorem cc_nxt {W : World} {b : Nat} {a : Nat → Value} {i : Nat} {nx : Value} (h : Blk W b 100 (ccCells a i nx)) : W.cell? ⟨b, 13, none⟩ = some nx := h.at_ 13 rfl
theorem IsRefusal.iface {w : World} {v : Value} (h : IsRefusal w v) : ∃ E, v = .iface 207 (.pointer (some ⟨E, 0, none⟩)) := by
  obtain ⟨ty, _, h⟩ := h
  rcases h with ⟨E, h, _⟩ | ⟨E, h, _⟩ <;> exact ⟨E, h⟩
/-- The place of the list's t-th block, or nil behind its end. -/
def ptrAt (L : List (Nat × Nat)) (t : Nat) : Value := .pointer ((L[t]?).map fun p => ⟨p.2, 0, none⟩)
/-- No name ahead of k is refused. -/
def Clean (d : ChainData) (k : Nat) : Prop := ∀ i j, i < k → i < j → j < d.n → d.hn i = true → d.nc j = true → d.bad i j = false
/-- The list's first t certificates are not behind k. -/
def Passed (L : List (Nat × Nat)) (t k : Nat) : Prop := ∀ (u i b : Nat), u < t → L[u]? = some (i, b) → i < k
set_option maxRecDepth 100000 in
set_option maxHeartbeats 4000000 in
theorem chainCheck_calls (d : ChainData) (g cap : Nat) (cur : Array Value) (w : World) (ok : ChainOk d w) (hg : Blk w g 66 cur) (hc : ∀ i, i < d.n → cur[i]? = some (.pointer (some ⟨d.C i, 0, none⟩))) (hn : d.n ≤ 1000000) (R : Bool)
    (hT : ∀ i j, i < j → j < d.n → d.hn i = true → d.nc j = true → d.bad i j = true → R = true) (hF : (∀ i j, i < j → j < d.n → d.hn i = true → d.nc j = true → d.bad i j = false) → R = false) :
    Calls Tryz.prog 86 #[.slice (some ⟨g, 0, none⟩) d.n cap] w (Says R w) := by
  have HT := Lib.hid hT
  have HF := Lib.hid hF
  have OK := Lib.hid ok
  have HC := Lib.hid hc
  clear hT hF ok hc
  go_enter Tryz.func86, Tryz.ntmps86
  go_wp2
  go_loopw [3, 4, 17] (fun cu la i wr => ∃ (k : Nat) (L : List (Nat × Nat)), i = .int .i64 k ∧ k ≤ d.n ∧ cu = firstP L ∧ la = lastP L ∧ Below w.heap.size w wr ∧ CCs d L wr ∧ Upto d k L ∧ Hid (∀ p, p ∈ L → w.heap.size ≤ p.2)) (fun _ _ i _ => d.n - (intOf i).toNat)
  case atStart => exact ⟨0, [], rfl, Nat.zero_le _, rfl, rfl, Below.refl _ _, fun t i b h => by simp at h, ⟨rfl, .nil⟩, fun p hp => by simp at hp⟩
  case round =>
    obtain ⟨k, L, rfl, hk, rfl, rfl, hbr, hcc, hup, hbig⟩ := hrel
    by_cases hlt : k < d.n
    · have c1 := (hg.later hbr).at_ k (HC.out k hlt)
      have hC := (OK.out.cert k hlt).later hbr
      have hnc := fun W => hasNC_calls (d.C k) (d.nc k) (d.hn k) (d.cv k) W
      have HN := Lib.hid hnc
      clear hnc
      go_wp2_with (fail)
      refine (HN.out _ hC).mono ?_
      rintro e w' ⟨rfl, rfl⟩
      clear HN
      cases hb : d.nc k with
      | false =>
        have hup2 := hup.skip hb
        go_wp2
        go_roundw
        case rel => exact ⟨k + 1, L, by go_num, by omega, rfl, rfl, hbr, hcc, hup2, hbig⟩
        case measure => simp only [intOf]; omega
      | true =>
        have H0 := Lib.hid (OK.out.ip0 k hlt hb)
        have H1 := Lib.hid (OK.out.ip1 k hlt hb)
        have H2 := Lib.hid (OK.out.dns0 k hlt hb)
        have H3 := Lib.hid (OK.out.dns1 k hlt hb)
        have H4 := Lib.hid (OK.out.uri0 k hlt hb)
        have H5 := Lib.hid (OK.out.uri1 k hlt hb)
        have H6 := Lib.hid (OK.out.mail0 k hlt hb)
        have H7 := Lib.hid (OK.out.mail1 k hlt hb)
        generalize hcv : d.cv k = c at *
        go_wp2
        go_region_held3 (fun W => W.cell? ⟨d.C k, 2, none⟩ = some (c 2) ∧ W.cell? ⟨d.C k, 3, none⟩ = some (c 3) ∧ W.cell? ⟨d.C k, 4, none⟩ = some (c 4) ∧ W.cell? ⟨d.C k, 5, none⟩ = some (c 5) ∧ W.cell? ⟨d.C k, 6, none⟩ = some (c 6) ∧ W.cell? ⟨d.C k, 7, none⟩ = some (c 7) ∧ W.cell? ⟨d.C k, 8, none⟩ = some (c 8) ∧ W.cell? ⟨d.C k, 9, none⟩ = some (c 9))
          (first | exact cells8 (D8.alloc _) | exact cells8 hC.drew | exact cells8 D8 | exact cells8 D7 | exact cells8 D6 | exact cells8 D5 | exact cells8 D4 | exact cells8 D3 | exact cells8 D2 | exact cells8 D1)
          (first
            | (go_at_call 88; (with_reducible refine (H0.out _ hbr.drew).mono ?_); rintro e w1 ⟨u0, rfl, uc0, uo0, p0, b0⟩; unfold Value.cells at uc0; have B1 := (hbr.drew).trans (b0.mono (hbr.drew).size); have C1 := ((Below.refl wr.heap.size wr).drew).trans (b0.mono ((Below.refl wr.heap.size wr).drew).size); have D1 := hC.later C1)
            | (go_at_call 88; (with_reducible refine (H1.out _ B1).mono ?_); rintro e w2 ⟨u1, rfl, uc1, uo1, p1, b1⟩; unfold Value.cells at uc1; have B2 := (B1).trans (b1.mono (B1).size); have C2 := (C1).trans (b1.mono (C1).size); have D2 := hC.later C2)
            | (go_at_call 73; (with_reducible refine (H2.out _ B2).mono ?_); rintro e w3 ⟨u2, rfl, uc2, uo2, p2, b2⟩; unfold Value.cells at uc2; have B3 := (B2).trans (b2.mono (B2).size); have C3 := (C2).trans (b2.mono (C2).size); have D3 := hC.later C3)
            | (go_at_call 73; (with_reducible refine (H3.out _ B3).mono ?_); rintro e w4 ⟨u3, rfl, uc3, uo3, p3, b3⟩; unfold Value.cells at uc3; have B4 := (B3).trans (b3.mono (B3).size); have C4 := (C3).trans (b3.mono (C3).size); have D4 := hC.later C4)
            | (go_at_call 73; (with_reducible refine (H4.out _ B4).mono ?_); rintro e w5 ⟨u4, rfl, uc4, uo4, p4, b4⟩; unfold Value.cells at uc4; have B5 := (B4).trans (b4.mono (B4).size); have C5 := (C4).trans (b4.mono (C4).size); have D5 := hC.later C5)
            | (go_at_call 73; (with_reducible refine (H5.out _ B5).mono ?_); rintro e w6 ⟨u5, rfl, uc5, uo5, p5, b5⟩; unfold Value.cells at uc5; have B6 := (B5).trans (b5.mono (B5).size); have C6 := (C5).trans (b5.mono (C5).size); have D6 := hC.later C6)
            | (go_at_call 77; (with_reducible refine (H6.out _ B6).mono ?_); rintro e w7 ⟨u6, rfl, uc6, uo6, p6, b6⟩; unfold Value.cells at uc6; have B7 := (B6).trans (b6.mono (B6).size); have C7 := (C6).trans (b6.mono (C6).size); have D7 := hC.later C7)
            | (go_at_call 77; (with_reducible refine (H7.out _ B7).mono ?_); rintro e w8 ⟨u7, rfl, uc7, uo7, p7, b7⟩; unfold Value.cells at uc7; have B8 := (B7).trans (b7.mono (B7).size); have C8 := (C7).trans (b7.mono (C7).size); have D8 := hC.later C8))
        have hφ8 : ∀ q, q < 8 → d.φ k q w8 (#[u0, u1, u2, u3, u4, u5, u6, u7].getD q .nilIface) := by
          intro q hq
          match q, hq with
          | 0, _ => exact (OK.out.φmono _ _ _ _ _ (OK.out.φmono _ _ _ _ _ (OK.out.φmono _ _ _ _ _ (OK.out.φmono _ _ _ _ _ (OK.out.φmono _ _ _ _ _ (OK.out.φmono _ _ _ _ _ (OK.out.φmono _ _ _ _ _ p0 (.of_below b1)) (.of_below b2)) (.of_below b3)) (.of_below b4)) (.of_below b5)) (.of_below b6)) (.of_below b7))
          | 1, _ => exact (OK.out.φmono _ _ _ _ _ (OK.out.φmono _ _ _ _ _ (OK.out.φmono _ _ _ _ _ (OK.out.φmono _ _ _ _ _ (OK.out.φmono _ _ _ _ _ (OK.out.φmono _ _ _ _ _ p1 (.of_below b2)) (.of_below b3)) (.of_below b4)) (.of_below b5)) (.of_below b6)) (.of_below b7))
          | 2, _ => exact (OK.out.φmono _ _ _ _ _ (OK.out.φmono _ _ _ _ _ (OK.out.φmono _ _ _ _ _ (OK.out.φmono _ _ _ _ _ (OK.out.φmono _ _ _ _ _ p2 (.of_below b3)) (.of_below b4)) (.of_below b5)) (.of_below b6)) (.of_below b7))
          | 3, _ => exact (OK.out.φmono _ _ _ _ _ (OK.out.φmono _ _ _ _ _ (OK.out.φmono _ _ _ _ _ (OK.out.φmono _ _ _ _ _ p3 (.of_below b4)) (.of_below b5)) (.of_below b6)) (.of_below b7))
          | 4, _ => exact (OK.out.φmono _ _ _ _ _ (OK.out.φmono _ _ _ _ _ (OK.out.φmono _ _ _ _ _ p4 (.of_below b5)) (.of_below b6)) (.of_below b7))
          | 5, _ => exact (OK.out.φmono _ _ _ _ _ (OK.out.φmono _ _ _ _ _ p5 (.of_below b6)) (.of_below b7))
          | 6, _ => exact (OK.out.φmono _ _ _ _ _ p6 (.of_below b7))
          | 7, _ => exact p7
        have hcc8 : CCs d L w8 := CCs.keep OK.out (w := wr) hcc C8
        have hφ8' := Lib.hid hφ8
        clear hφ8 p0 p1 p2 p3 p4 p5 p6 p7 b0 b1 b2 b3 b4 b5 b6 b7 uc0 uc1 uc2 uc3 uc4 uc5 uc6 uc7 uo0 uo1 uo2 uo3 uo4 uo5 uo6 uo7 H0 H1 H2 H3 H4 H5 H6 H7 hcc D1 D2 D3 D4 D5 D6 D7 D8 B1 B2 B3 B4 B5 B6 B7 C1 C2 C3 C4 C5 C6 C7
        have hbg : ∀ p ∈ L, p.2 < w8.heap.size := fun p hp => by
          obtain ⟨t, ht, rfl⟩ := List.getElem_of_mem hp
          obtain ⟨_, _, hb⟩ := hcc8 t (L[t].1) (L[t].2) (List.getElem?_eq_getElem ht)
          exact hb.lt
        have hup2 := hup.push hb hbg
        have hbig2 : Hid (∀ p, p ∈ L ++ [(k, w8.heap.size)] → w.heap.size ≤ p.2) := fun p hp => by
          rcases List.mem_append.1 hp with h | h
          · exact hbig.out p h
          · simp at h; subst h; exact B8.size
        by_cases hL : L = []
        · subst hL
          have hnew := CCs.first OK.out _ k hφ8'.out
          simp only [firstP, lastP, List.getElem?_nil, List.getLast?_nil, Option.map_none]
          go_wp2
          go_roundw
          case rel => exact ⟨k + 1, [(k, w8.heap.size)], by go_num, by omega, rfl, rfl, B8.alloc B8.size _, hnew, hup2, hbig2⟩
          case measure => simp only [intOf]; omega
        · obtain ⟨li, lb, hla⟩ := CCs.some_last hL
          obtain ⟨hnew, hlb⟩ := CCs.more OK.out hcc8 hup.2 _ k hφ8'.out li lb hla
          have hmem : (li, lb) ∈ L := List.mem_of_getLast? hla
          have hlbw : w.heap.size ≤ lb := hbig.out _ hmem
          rw [World.setCell_alloc_past _ _ _ _ hlb] at hnew
          obtain ⟨tl, htl, htl2⟩ := List.getElem_of_mem hmem
          obtain ⟨al, _, hbl⟩ := hcc8 tl li lb (by rw [List.getElem?_eq_getElem htl, htl2])
          have cl := hbl.at_ 13 rfl
          have fl := hbl.frozen 13
          have hfirst : ∃ p0, firstP L = .pointer (some ⟨p0, 0, none⟩) := by
            cases L with
            | nil => exact absurd rfl hL
            | cons x xs => exact ⟨x.2, rfl⟩
          have hlastP : lastP L = .pointer (some ⟨lb, 0, none⟩) := by unfold lastP; rw [hla]; rfl
          have hfirst2 : firstP (L ++ [(k, w8.heap.size)]) = firstP L := by
            cases L with
            | nil => exact absurd rfl hL
            | cons x xs => rfl
          have hlast2 : lastP (L ++ [(k, w8.heap.size)]) = .pointer (some ⟨w8.heap.size, 0, none⟩) := by unfold lastP; simp
          obtain ⟨p0, hp0⟩ := hfirst
          rw [hp0] at hfirst2 ⊢
          rw [hlastP]
          have HF2 := Lib.hid hfirst2
          have HL2 := Lib.hid hlast2
          have HNW := Lib.hid hnew
          clear hfirst2 hlast2 hp0 hlastP hnew htl2 hla
          go_wp2
          go_roundw
          case rel => exact ⟨k + 1, L ++ [(k, w8.heap.size)], by go_num, by omega, HF2.out.symm, HL2.out.symm, (Below.setCell B8 hlbw _).alloc (by have := B8.size; simpa [World.setCell] using this) _, HNW.out, hup2, hbig2⟩
          case measure => simp only [intOf]; omega
    · obtain rfl : k = d.n := by omega
      have hbr0 := hbr
      by_cases hL : L = []
      · subst hL
        have hR : R = false := HF.out fun i j _ hj _ hc => by
          obtain ⟨u, b, hu⟩ := hup.has hj hc
          simp at hu
        subst hR
        simp only [firstP, lastP, List.getElem?_nil, List.getLast?_nil, Option.map_none]
        go_wp2
        go_ret
        exact ⟨_, rfl, hbr, .inl ⟨rfl, rfl⟩⟩
      · have hfl : ∃ i0 b0, L[0]? = some (i0, b0) := by
          cases L with
          | nil => exact absurd rfl hL
          | cons x xs => exact ⟨x.1, x.2, rfl⟩
        obtain ⟨i0, b0, hi0⟩ := hfl
        have hf0 : firstP L = .pointer (some ⟨b0, 0, none⟩) := by unfold firstP; rw [hi0]; rfl
        rw [hf0]
        have HF0 := Lib.hid hf0
        have HI0 := Lib.hid hi0
        clear hf0 hi0
        go_wp2
        go_loopw [3, 88] (fun cu i wq => ∃ (k t ti tb : Nat), i = .int .i64 k ∧ k ≤ d.n ∧ cu = .pointer (some ⟨tb, 0, none⟩) ∧ Hid (L[t]? = some (ti, tb)) ∧ Below w.heap.size w wq ∧ CCs d L wq ∧ Passed L t k ∧ Clean d k) (fun _ i _ => d.n - (intOf i).toNat)
        case atStart => exact ⟨0, 0, i0, b0, rfl, Nat.zero_le _, rfl, HI0.out, hbr, hcc, fun u i b h => by omega, fun i j h => by omega⟩
        case round =>
          obtain ⟨k, t, ti, tb, rfl, hk2, rfl, hLt, hbq, hcq, hpas, hcl⟩ := hrel
          clear hbr hcc
          by_cases hlt2 : k < d.n
          · have c1 := (hg.later hbq).at_ k (HC.out k hlt2)
            have hC := (OK.out.cert k hlt2).later hbq
            have hsn := fun W => hasSAN_calls (d.C k) (d.nc k) (d.hn k) (d.cv k) W
            have HN := Lib.hid hsn
            clear hsn
            go_wp2_with (fail)
            refine (HN.out _ hC).mono ?_
            rintro e w' ⟨rfl, rfl⟩
            clear HN
            cases hhn : d.hn k with
            | false =>
              have hcl2 : Clean d (k + 1) := fun i j h1 h2 h3 h4 h5 => by
                by_cases e : i = k
                · subst e; rw [hhn] at h4; cases h4
                · exact hcl i j (by omega) h2 h3 h4 h5
              have hpas2 : Passed L t (k + 1) := fun u i b h1 h2 => by have := hpas u i b h1 h2; omega
              go_wp2
              go_roundw
              case rel => exact ⟨k + 1, t, ti, tb, by go_num, by omega, rfl, hLt, hbq, hcq, hpas2, hcl2⟩
              case measure => simp only [intOf]; omega
            | true =>
              obtain ⟨ta, hta, hbt⟩ := hcq t ti tb hLt.out
              have ct := cc_idx hbt
              have cn := cc_nxt hbt
              obtain ⟨wz, hwz⟩ : ∃ wz, wz = wr := ⟨_, rfl⟩
              go_upto_if 101 with (fail)
              go_cut [3] (fun cu wx => ∃ (t ti tb : Nat), cu = .pointer (some ⟨tb, 0, none⟩) ∧ Hid (L[t]? = some (ti, tb)) ∧ k < ti ∧ Passed L t (k + 1) ∧ wx = wz)
              case first =>
                subst hwz
                have hpas1 : Passed L t (k + 1) := fun u i b h1 h2 => by have := hpas u i b h1 h2; omega
                by_cases hti : ti ≤ k
                · go_wp2
                  go_loopg [3] L.length (fun kx cu wx => ∃ (t ti tb : Nat), cu = .pointer (some ⟨tb, 0, none⟩) ∧ Hid (L[t]? = some (ti, tb)) ∧ Passed L t (k + 1) ∧ L.length - t ≤ kx ∧ wx = wz)
                  case atStart => exact ⟨t, ti, tb, rfl, hLt, hpas1, by omega, rfl⟩
                  case round =>
                    obtain ⟨t, ti, tb, rfl, hLt, hpas, hkx, rfl⟩ := hrel
                    obtain ⟨ta, _, hbt⟩ := hcq t ti tb hLt.out
                    have ct := cc_idx hbt
                    have cn := cc_nxt hbt
                    have htl : t < L.length := (List.getElem?_eq_some_iff.1 hLt.out).1
                    clear hpas1 hti hbt
                    by_cases hti : ti ≤ k
                    · by_cases hnx : t + 1 < L.length
                      · obtain ⟨ni, nb, hN⟩ : ∃ ni nb, L[t + 1]? = some (ni, nb) := ⟨L[t + 1].1, L[t + 1].2, List.getElem?_eq_getElem hnx⟩
                        have en : nxtOf L t = .pointer (some ⟨nb, 0, none⟩) := by unfold nxtOf; rw [hN]; rfl
                        rw [en] at cn
                        have HN := Lib.hid hN
                        have hpas2 : Passed L (t + 1) (k + 1) := fun u i b h1 h2 => by
                          by_cases e : u = t
                          · subst e
                            have := hLt.out
                            rw [h2] at this
                            simp only [Option.some.injEq, Prod.mk.injEq] at this
                            omega
                          · exact hpas u i b (by omega) h2
                        clear hN en
                        go_wp2
                        go_roundg (L.length - (t + 1))
                        case measure => omega
                        case rel => exact ⟨t + 1, ni, nb, rfl, HN, hpas2, Nat.le_refl _, rfl⟩
                      · have en : nxtOf L t = .pointer none := nxtOf_last L t (by omega)
                        rw [en] at cn
                        have hR : R = false := HF.out fun i j h1 h2 h3 h4 => by
                          obtain ⟨u, b, hu⟩ := hup.has h2 h4
                          have hul : u < L.length := (List.getElem?_eq_some_iff.1 hu).1
                          have hji : j ≤ ti := by
                            by_cases e : u = t
                            · subst e
                              have := hLt.out
                              rw [hu] at this
                              simp only [Option.some.injEq, Prod.mk.injEq] at this
                              omega
                            · exact Nat.le_of_lt (hup.lt hu hLt.out (by omega))
                          exact hcl i j (by omega) h1 h2 h3 h4
                        subst hR
                        clear en
                        go_wp2
                        go_ret
                        exact ⟨_, rfl, hbq, .inl ⟨rfl, rfl⟩⟩
                    · go_wp2
                      go_meet
                      case rel => exact ⟨t, ti, tb, rfl, hLt, by omega, hpas, rfl⟩
                · go_wp2
                  go_meet
                  case rel => exact ⟨t, ti, tb, rfl, hLt, by omega, hpas1, rfl⟩
              case rest =>
                clear hLt hpas ct cn hbt hta ta
                obtain ⟨t, ti, tb, rfl, hLt, hti, hpas, rfl⟩ := hcut
                subst hwz
                have HU := Lib.hid (OK.out.uris k hlt2 hhn)
                have HM := Lib.hid (OK.out.mails k hlt2 hhn)
                have c11 := hC.at_ 11 rfl
                have c12 := hC.at_ 12 rfl
                go_wp2_with (fail)
                refine (HU.out _ hbq).mono ?_
                rintro e w1 ⟨vu, rfl, pu, b1⟩
                have hb1 := hbq.trans (b1.mono hbq.size)
                have hC1 := hC.later b1
                have d11 := hC1.at_ 11 rfl
                clear c11 c12 HU
                go_wp2_with (fail)
                refine (HM.out _ hb1).mono ?_
                rintro e w2 ⟨vm, rfl, pm, b2⟩
                have hb2 := hb1.trans (b2.mono hb1.size)
                have hC2 := hC1.later b2
                have hcc2 : CCs d L w2 := (hcq.keep OK.out b1).keep OK.out b2
                have pu2 := OK.out.ψmono _ _ _ _ _ pu (.of_below b2)
                clear d11 HM b1 b2 hb1 hbq hcq hC hC1 pu c1
                go_wp2
                have hlt0 : t < L.length := (List.getElem?_eq_some_iff.1 hLt.out).1
                have htb : (Value.pointer (some ⟨tb, 0, none⟩)) = ptrAt L t := by unfold ptrAt; rw [hLt.out]; rfl
                rw [htb]
                have HTB := Lib.hid htb
                clear htb
                go_loopg [13] L.length (fun kx nv wx => ∃ s : Nat, t ≤ s ∧ s ≤ L.length ∧ nv = ptrAt L s ∧ L.length - s ≤ kx ∧ Below w.heap.size w wx ∧ CCs d L wx ∧ d.ψ k 0 wx vu ∧ d.ψ k 1 wx vm ∧ Hid (∀ (u i b : Nat), t ≤ u → u < s → L[u]? = some (i, b) → d.bad k i = false))
                case atStart => exact ⟨t, Nat.le_refl _, by omega, rfl, by omega, hb2, hcc2, pu2, pm, fun u i b h1 h2 => by omega⟩
                case round =>
                  clear hb2 hcc2 pu2 pm hC2
                  obtain ⟨s, hts, hsl, rfl, hkx, hbx, hcx, hpu, hpm, hclean⟩ := hrel
                  by_cases hs : s < L.length
                  · obtain ⟨si, sb, hS⟩ : ∃ si sb, L[s]? = some (si, sb) := ⟨L[s].1, L[s].2, List.getElem?_eq_getElem hs⟩
                    have ep : ptrAt L s = .pointer (some ⟨sb, 0, none⟩) := by unfold ptrAt; rw [hS]; rfl
                    rw [ep]
                    obtain ⟨sa, hsa, hbs⟩ := hcx s si sb hS
                    have hks : k < si := by
                      by_cases e : s = t
                      · subst e
                        have := hLt.out
                        rw [hS] at this
                        simp only [Option.some.injEq, Prod.mk.injEq] at this
                        omega
                      · have := hup.lt hLt.out hS (by omega); omega
                    have hsn := hup.is hS
                    have hCx := (OK.out.cert k hlt2).later hbx
                    have k10 : wr.cell? ⟨d.C k, 10, none⟩ = some (d.cv k 10) := hCx.at_ 10 rfl
                    have k13 : wr.cell? ⟨d.C k, 13, none⟩ = some (d.cv k 13) := hCx.at_ 13 rfl
                    have hck := OK.out.check k si hks hsn.1 hhn hsn.2 wr.drew sa vu vm (nxtOf L s) sb hbx.drew hbs (fun q hq => OK.out.φmono _ _ _ _ _ (hsa q hq) (.of_below (Below.refl _ _).drew)) (OK.out.ψmono _ _ _ _ _ hpu (.of_below (Below.refl _ _).drew)) (OK.out.ψmono _ _ _ _ _ hpm (.of_below (Below.refl _ _).drew))
                    have HK := Lib.hid hck
                    have HS := Lib.hid hS
                    have HEP := Lib.hid ep
                    clear hck hS ep
                    go_wp2
                    go_region_held3 (fun W => W.cell? ⟨d.C k, 10, none⟩ = some (d.cv k 10) ∧ W.cell? ⟨d.C k, 13, none⟩ = some (d.cv k 13))
                      (first | exact ⟨hCx.drew.at_ 10 rfl, hCx.drew.at_ 13 rfl⟩ | exact ⟨(hCx.drew.later b9).at_ 10 rfl, (hCx.drew.later b9).at_ 13 rfl⟩)
                      (first | (go_at_call 74; refine HK.out.mono ?_; rintro e w9 ⟨v9, rfl, b9, s9⟩))
                    have hb9 : Below wr.heap.size wr w9 := ((Below.refl _ _).drew).trans b9
                    have hbw9 := hbx.trans (hb9.mono hbx.size)
                    have hcc9 := hcx.keep OK.out hb9
                    have hpu9 := OK.out.ψmono _ _ _ _ _ hpu (.of_below hb9)
                    have hpm9 := OK.out.ψmono _ _ _ _ _ hpm (.of_below hb9)
                    have n13 : w9.cell? ⟨sb, 13, none⟩ = some (ptrAt L (s + 1)) := cc_nxt (hbs.later hb9)
                    clear HK b9 hb9 hbx hcx hpu hpm hsa hbs k10 k13
                    rcases s9 with ⟨hbad, rfl⟩ | ⟨hbad, href⟩
                    · have hclean2 : Hid (∀ (u i b : Nat), t ≤ u → u < s + 1 → L[u]? = some (i, b) → d.bad k i = false) := fun u i b h1 h2 h3 => by
                        by_cases e : u = s
                        · subst e
                          have := HS.out
                          rw [h3] at this
                          simp only [Option.some.injEq, Prod.mk.injEq] at this
                          rw [this.1]; exact hbad
                        · exact hclean.out u i b h1 (by omega) h3
                      have HB := Lib.hid hbad
                      clear hbad hclean
                      go_wp2
                      go_roundg (L.length - (s + 1))
                      case measure => omega
                      case rel => exact ⟨s + 1, by omega, by omega, rfl, Nat.le_refl _, hbw9, hcc9, hpu9, hpm9, hclean2⟩
                    · have hR : R = true := HT.out k si hks hsn.1 hhn hsn.2 hbad
                      subst hR
                      obtain ⟨E, rfl⟩ := href.iface
                      clear hbad
                      go_wp2
                      go_ret
                      exact ⟨_, rfl, hbw9, .inr ⟨rfl, href⟩⟩
                  · obtain rfl : s = L.length := by omega
                    have ep : ptrAt L L.length = .pointer none := by unfold ptrAt; rw [List.getElem?_eq_none (Nat.le_refl _)]; rfl
                    rw [ep]
                    have HEP := Lib.hid ep
                    have hcl2 : Clean d (k + 1) := fun i j h1 h2 h3 h4 h5 => by
                      by_cases e : i = k
                      · subst e
                        obtain ⟨u, b, hu⟩ := hup.has h3 h5
                        have hul : u < L.length := (List.getElem?_eq_some_iff.1 hu).1
                        refine hclean.out u j b ?_ hul hu
                        rcases Nat.lt_or_ge u t with h | h
                        · have := hpas u j b h hu; omega
                        · exact h
                      · exact hcl i j (by omega) h2 h3 h4 h5
                    clear ep hclean
                    rw [HTB.out.symm]
                    go_wp2
                    go_roundw
                    case rel => exact ⟨k + 1, t, ti, tb, by go_num, by omega, rfl, hLt, hbx, hcx, hpas, hcl2⟩
                    case measure => simp only [intOf]; omega
          · obtain rfl : k = d.n := by omega
            have hR : R = false := HF.out fun i j h1 h2 h3 h4 => hcl i j (by omega) h1 h2 h3 h4
            subst hR
            go_wp2
            go_ret
            exact ⟨_, rfl, hbq, .inl ⟨rfl, rfl⟩⟩
end Go.Proofs.YtblabjfjhlablaaGreatDoor
