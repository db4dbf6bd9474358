/- The walk of spec's Checked. -/
import Derived.Test.YtblabjfjhlablaaGreatDoorQ4
import Derived.Test.YtblabjfjhlablaaGreatDoorRd
namespace Go.Proofs.YtblabjfjhlablaaGreatDoor
open Go.RowKit Go.Sort Nc
theorem eg90 : ∀ args w, (callFunc 90 args).run Tryz.prog w = .ok (.enter 90 args) w := enters_of Tryz.func90 (by kernel_rfl) rfl
theorem eg94 : ∀ args w, (callFunc 94 args).run Tryz.prog w = .ok (.enter 94 args) w := enters_of Tryz.func94 (by kernel_rfl) rfl
theorem eg97 : ∀ args w, (callFunc 97 args).run Tryz.prog w = .ok (.enter 97 args) w := enters_of Tryz.func97 (by kernel_rfl) rfl
theorem worstR_le {a b : Nat} (ha : a ≤ 2) (hb : b ≤ 2) : worstR a b ≤ 2 := by
  unfold worstR
  split <;> omega
theorem fold_step (pre X : List Nat) (k : Nat) (h : k < X.length) : (pre ++ X.take (k + 1)).foldl worstR 0 = worstR ((pre ++ X.take k).foldl worstR 0) X[k] := by
  rw [List.take_succ_eq_append_getElem h, ← List.append_assoc, List.foldl_append]
  rfl
/-- The cells of a certificate's constraints. -/
def GSlots.pcells (z : GSlots) (c : GC) : Array Value := #[.slice (z.pA 0) (c.p 0).length (z.pc 0), .slice (z.pA 1) (c.p 1).length (z.pc 1), .slice (z.pA 2) (c.p 2).length (z.pc 2), .slice (z.pA 3) c.pn.length (z.pc 3)]
def GSlots.ecells (z : GSlots) (c : GC) : Array Value := #[.slice (z.eA 0) (c.e 0).length (z.ec 0), .slice (z.eA 1) (c.e 1).length (z.ec 1), .slice (z.eA 2) (c.e 2).length (z.ec 2), .slice (z.eA 3) c.en.length (z.ec 3)]
theorem certB_box {c : GC} (h : certB c = true) : ∀ s ∈ c.s 1, boxB s = true := fun s hs => by
  simp only [certB, Bool.and_eq_true] at h
  obtain ⟨_, ⟨⟨_, _⟩, h1⟩, _⟩ := h
  simp only [Bool.not_eq_true', List.any_eq_false] at h1
  have := h1 s hs
  simpa using this
/-- What stands while Checked runs. -/
structure CInv (w : World) (P E : Nat) (zb z : GSlots) (b c : GC) (W : World) : Prop where
  below : Below w.heap.size w W
  p : Blk W P 27 (zb.pcells b)
  e : Blk W E 27 (zb.ecells b)
  c : Blk W (w.heap.size + 1) 30 (z.cells c)
theorem CInv.later {w : World} {P E : Nat} {zb z : GSlots} {b c : GC} {W W' : World} (h : CInv w P E zb z b c W) (hb : Below W.heap.size W W') : CInv w P E zb z b c W' :=
  ⟨h.below.trans (hb.mono h.below.size), h.p.later hb, h.e.later hb, h.c.later hb⟩
theorem CInv.alloc {w : World} {P E : Nat} {zb z : GSlots} {b c : GC} {W : World} (h : CInv w P E zb z b c W) (o : Obj) : CInv w P E zb z b c (W.alloc o) := h.later ((Below.refl _ _).alloc (Nat.le_refl _) o)
theorem CInv.drew {w : World} {P E : Nat} {zb z : GSlots} {b c : GC} {W : World} (h : CInv w P E zb z b c W) : CInv w P E zb z b c W.drew := h.later (Below.refl _ _).drew
/-- Two blocks, made one behind the other. -/
theorem two_made {w W : World} (hb : Below w.heap.size w W) {n : Nat} (hn : W.heap.size = n) (x y : Array Value) {k : Nat} {cs : Array Value} (hk : Blk W k 30 cs) :
    Below w.heap.size w (((W.alloc (.cells x 27)).alloc (.cells y 27)).drew) ∧ Blk (((W.alloc (.cells x 27)).alloc (.cells y 27)).drew) n 27 x ∧ Blk (((W.alloc (.cells x 27)).alloc (.cells y 27)).drew) (n + 1) 27 y ∧ Blk (((W.alloc (.cells x 27)).alloc (.cells y 27)).drew) k 30 cs := by
  have h1 := hb.alloc hb.size (.cells x 27)
  have h2 := h1.alloc h1.size (.cells y 27)
  have b1 := (Blk.new W 27 x).alloc (.cells y 27)
  have b2 := Blk.new (W.alloc (.cells x 27)) 27 y
  rw [World.size_alloc, hn] at b2
  rw [hn] at b1
  exact ⟨h2.drew, b1, b2, (hk.alloc _).alloc _⟩
set_option maxRecDepth 100000 in
set_option maxHeartbeats 4000000 in
theorem checked_calls (zb z : GSlots) (b c : GC) (w : World) (hb : CertRd w zb b) (hc : CertRd w z c) (okb : certB b = true) (okc : certB c = true) :
    Calls Tryz.prog 69 #[zb.val b, z.val c] w fun e w' => e = .returned (.int .i64 ((checkedL b c).foldl worstR 0 : Nat)) ∧ Below w.heap.size w w' := by
  have hB : Blk (w.alloc (.cells (zb.cells b) 30)) w.heap.size 30 (zb.cells b) := Blk.new _ _ _
  have hb0 : Below w.heap.size w (w.alloc (.cells (zb.cells b) 30)) := (Below.refl _ _).alloc (Nat.le_refl _) _
  have hz0 : (w.alloc (.cells (zb.cells b) 30)).heap.size = w.heap.size + 1 := World.size_alloc _ _
  have hC := Blk.new (w.alloc (.cells (zb.cells b) 30)) 30 (z.cells c)
  rw [hz0] at hC
  have hb1 := hb0.alloc hb0.size (.cells (z.cells c) 30)
  have hB1 := hB.alloc (.cells (z.cells c) 30)
  have hz1 : ((w.alloc (.cells (zb.cells b) 30)).alloc (.cells (z.cells c) 30)).heap.size = w.heap.size + 1 + 1 := by rw [World.size_alloc, hz0]
  clear hB hb0 hz0
  unfold GSlots.val cval len4
  unfold GSlots.cells at hB1 hC hb1 hz1
  go_enter Tryz.func69, Tryz.ntmps69
  go_upto_region 2 with fail
  go_cut [6, 7] from 21 to 24 (fun p6 p7 wx => ∃ P E, p6 = .pointer (some ⟨P, 0, none⟩) ∧ p7 = .pointer (some ⟨E, 0, none⟩) ∧ Below w.heap.size w wx ∧ Blk wx P 27 (zb.pcells b) ∧ Blk wx E 27 (zb.ecells b) ∧ Blk wx (w.heap.size + 1) 30 (z.cells c))
  case first =>
    have T1 := Lib.hid (fun x y => two_made hb1 hz1 x y hC)
    obtain ⟨d0, d1, d2, d3, d4, d5, d6, d7, d8, d9, d10, d11, e5, e6, e7⟩ := cells12 hB1
    clear hB1 hC hb1 hz1
    go_region
    all_goals go_wp2_with fail
    all_goals go_meet
    all_goals first
      | (obtain ⟨q1, q2, q3, q4⟩ := T1.out (zb.pcells b) (zb.ecells b); exact ⟨_, _, rfl, rfl, q1, q2, q3, q4⟩)
      | (obtain ⟨q1, q2, q3, q4⟩ := T1.out (zb.ecells b) (zb.pcells b); exact ⟨_, _, rfl, rfl, q1, q3, q2, q4⟩)
  case rest =>
    obtain ⟨P, E, rfl, rfl, q1, q2, q3, q4⟩ := hcut
    have hI : CInv w P E zb z b c wc := ⟨q1, q2, q3, q4⟩
    obtain ⟨okB, lpB, leB, _⟩ := certB_ok okb
    obtain ⟨okC, _, _, lsC⟩ := certB_ok okc
    have hw := Lib.hid (And.intro hb hc)
    have HBX := Lib.hid (certB_box okc)
    have HI := Lib.hid hI
    have HOB := Lib.hid okB
    have HOC := Lib.hid okC
    have l0 : (c.s 0).length ≤ 20 := lsC 0
    have l1 : (c.s 1).length ≤ 20 := lsC 1
    have l2 : (c.s 2).length ≤ 20 := lsC 2
    have l3 : c.ad.length ≤ 20 := lsC 3
    have p0 : (b.p 0).length ≤ 20 := lpB 0
    have p1 : (b.p 1).length ≤ 20 := lpB 1
    have p2 : (b.p 2).length ≤ 20 := lpB 2
    have p3 : b.pn.length ≤ 20 := lpB 3
    have x0 : (b.e 0).length ≤ 20 := leB 0
    have x1 : (b.e 1).length ≤ 20 := leB 1
    have x2 : (b.e 2).length ≤ 20 := leB 2
    have x3 : b.en.length ≤ 20 := leB 3
    have c8 : wc.cell? ⟨w.heap.size + 1, 8, none⟩ = some (.slice (z.fA 0) (c.s 0).length (z.fc 0)) := q4.at_ 8 rfl
    have c9 : wc.cell? ⟨w.heap.size + 1, 9, none⟩ = some (.slice (z.fA 1) (c.s 1).length (z.fc 1)) := q4.at_ 9 rfl
    have c10 : wc.cell? ⟨w.heap.size + 1, 10, none⟩ = some (.slice (z.fA 2) (c.s 2).length (z.fc 2)) := q4.at_ 10 rfl
    have c11 : wc.cell? ⟨w.heap.size + 1, 11, none⟩ = some (.slice (z.fA 3) c.ad.length (z.fc 3)) := q4.at_ 11 rfl
    clear q1 q2 q3 q4 hB1 hC hb1 hz1 hb hc okb okc okB okC lpB leB lsC hI
    go_wp2
    go_loopw [5, 28] (fun o i wr => ∃ k r : Nat, i = .int .i64 k ∧ k ≤ (c.s 0).length ∧ o = .int .i64 r ∧ r ≤ 2 ∧ Hid (CInv w P E zb z b c wr) ∧ Hid (r = ([] ++ ((c.s 0).map (dnsL b)).take k).foldl worstR 0)) (fun _ i _ => (c.s 0).length - (intOf i).toNat)
    case atStart => exact ⟨0, 0, rfl, Nat.zero_le _, rfl, by omega, HI.out, rfl⟩
    case round =>
      obtain ⟨k, r, rfl, hk, rfl, hr2, hI, hr⟩ := hrel
      clear HI c8
      by_cases hlt : k < (c.s 0).length
      · obtain ⟨ad, had, cx⟩ := ((hw.out.2.later hI.out.below).s 0 (by omega)).cellAt k hlt
        have hss : ((c.s 0)[k]).size ≤ 2147483647 := by have := (HOC.out.dns _ (List.getElem_mem hlt)).size; omega
        have hst := fold_step ([] : List Nat) ((c.s 0).map (dnsL b)) k (by simpa using hlt)
        rw [← hr.out, List.getElem_map] at hst
        unfold dnsL at hst
        rw [had]
        have HAD := Lib.hid had
        clear had hr
        generalize (c.s 0)[k] = s at *
        have hI1 : Hid (CInv w P E zb z b c (wr.alloc (.cells #[.string s] 9))) := hI.out.alloc _
        have HG := Lib.hid (Blk.new wr 9 #[.string s])
        have KP := Lib.hid (fun (W : World) (hW : CInv w P E zb z b c W) (hS : Blk W wr.heap.size 9 #[.string s]) => of_calls 90 eg90 #[.pointer (some ⟨wr.heap.size, 0, none⟩)] (zb.pA 0) (b.p 0) (zb.pc 0) (dnsR · s) W ((hw.out.1.later hW.below).p.t 0 (by omega)) (by omega) (fun x hx W' hW' => askDns_fn x s _ W' (hS.later hW') (by have := (HOB.out.p 0 (by omega) x hx).1; omega) hss))
        have KE := Lib.hid (fun (W : World) (hW : CInv w P E zb z b c W) (hS : Blk W wr.heap.size 9 #[.string s]) => of_calls 90 eg90 #[.pointer (some ⟨wr.heap.size, 0, none⟩)] (zb.eA 0) (b.e 0) (zb.ec 0) (dnsR · s) W ((hw.out.1.later hW.below).e.t 0 (by omega)) (by omega) (fun x hx W' hW' => askDns_fn x s _ W' (hS.later hW') (by have := (HOB.out.e 0 (by omega) x hx).1; omega) hss))
        have hPl : ((b.p 0).map (dnsR · s)).length ≤ 1000000 := by rw [List.length_map]; omega
        have hEl : ((b.e 0).map (dnsR · s)).length ≤ 1000000 := by rw [List.length_map]; omega
        have hrl := ruledR_le ((b.p 0).map (dnsR · s)) ((b.e 0).map (dnsR · s))
        generalize (b.p 0).map (dnsR · s) = PL at *
        generalize (b.e 0).map (dnsR · s) = EL at *
        have HST := Lib.hid hst
        clear hst hss
        have Hr2 := hr2
        go_wp2
        go_region_held3 (fun W => W.cell? ⟨P, 0, none⟩ = some (.slice (zb.pA 0) (b.p 0).length (zb.pc 0)) ∧ W.cell? ⟨E, 0, none⟩ = some (.slice (zb.eA 0) (b.e 0).length (zb.ec 0)))
          (first | exact ⟨hI1.out.drew.p.at_ 0 rfl, hI1.out.drew.e.at_ 0 rfl⟩ | exact ⟨J2.out.p.at_ 0 rfl, J2.out.e.at_ 0 rfl⟩ | exact ⟨J1.out.p.at_ 0 rfl, J1.out.e.at_ 0 rfl⟩)
          (first
            | (go_at_call 93; (with_reducible refine (KP.out _ hI1.out.drew HG.out.drew).mono ?_); rintro e w1 ⟨vp, rfl, tp, bp⟩; obtain ⟨A1, k1, rfl, n1⟩ := NumsAt.of_row tp; have J1 := Lib.hid (hI1.out.drew.later bp); have G1 := Lib.hid (HG.out.drew.later bp); have N1 := Lib.hid n1; clear tp n1 bp)
            | (go_at_call 93; (with_reducible refine (KE.out _ J1.out G1.out).mono ?_); rintro e w2 ⟨ve, rfl, te, be⟩; obtain ⟨A2, k2, rfl, n2⟩ := NumsAt.of_row te; have J2 := Lib.hid (J1.out.later be); have M1 := Lib.hid (N1.out.later be); have M2 := Lib.hid n2; clear te n2 be)
            | (go_at_call 93; (with_reducible refine (KE.out _ hI1.out.drew HG.out.drew).mono ?_); rintro e w1 ⟨ve, rfl, te, be⟩; obtain ⟨A2, k2, rfl, n2⟩ := NumsAt.of_row te; have J1 := Lib.hid (hI1.out.drew.later be); have G1 := Lib.hid (HG.out.drew.later be); have N1 := Lib.hid n2; clear te n2 be)
            | (go_at_call 93; (with_reducible refine (KP.out _ J1.out G1.out).mono ?_); rintro e w2 ⟨vp, rfl, tp, bp⟩; obtain ⟨A1, k1, rfl, n1⟩ := NumsAt.of_row tp; have J2 := Lib.hid (J1.out.later bp); have M2 := Lib.hid (N1.out.later bp); have M1 := Lib.hid n1; clear tp n1 bp)
            | (go_at_call 92; (with_reducible refine (ruled_calls A1 A2 PL EL k1 k2 _ M1.out M2.out hPl hEl).mono ?_); rintro e w3 ⟨rfl, rfl⟩)
            | (go_at_call 68; (with_reducible refine (worst_calls r (ruledR PL EL) _ Hr2 hrl).mono ?_); rintro e w4 ⟨rfl, rfl⟩))
        all_goals go_wp2
        all_goals go_roundw
        case rel => exact ⟨k + 1, worstR r (ruledR PL EL), by go_num, by omega, rfl, worstR_le Hr2 hrl, J2, HST.out.symm⟩
        case measure => simp only [intOf]; omega
      · obtain rfl : k = (c.s 0).length := by omega
        have hr1 : r = (((c.s 0).map (dnsL b))).foldl worstR 0 := by rw [hr.out, List.take_of_length_le (by simp), List.nil_append]
        have HRR := Lib.hid hr1
        have HRL := hr2
        have HI := hI
        have c10 : wr.cell? ⟨w.heap.size + 1, 10, none⟩ = some (.slice (z.fA 2) (c.s 2).length (z.fc 2)) := hI.out.c.at_ 10 rfl
        clear hI hr hr1 hr2
        go_wp2
        go_loopw [5, 48] (fun o i wr => ∃ k r : Nat, i = .int .i64 k ∧ k ≤ (c.s 2).length ∧ o = .int .i64 r ∧ r ≤ 2 ∧ Hid (CInv w P E zb z b c wr) ∧ Hid (r = (((c.s 0).map (dnsL b)) ++ ((c.s 2).map (uriL b)).take k).foldl worstR 0)) (fun _ i _ => (c.s 2).length - (intOf i).toNat)
        case atStart => exact ⟨0, r, rfl, Nat.zero_le _, rfl, HRL, HI.out, by show _ = _; rw [HRR.out, List.take_zero, List.append_nil]⟩
        case round =>
          obtain ⟨k, r, rfl, hk, rfl, hr2, hI, hr⟩ := hrel
          clear HI c10 HRR HRL
          by_cases hlt : k < (c.s 2).length
          · obtain ⟨ad, had, cx⟩ := ((hw.out.2.later hI.out.below).s 2 (by omega)).cellAt k hlt
            have hss : ((c.s 2)[k]).size ≤ 2147483647 := by have := (nameB_fit _ (HOC.out.host _ (List.getElem_mem hlt))).size; omega
            have hst := fold_step ((c.s 0).map (dnsL b)) ((c.s 2).map (uriL b)) k (by simpa using hlt)
            rw [← hr.out, List.getElem_map] at hst
            unfold uriL at hst
            rw [had]
            have HAD := Lib.hid had
            clear had hr
            generalize (c.s 2)[k] = s at *
            have hI1 : Hid (CInv w P E zb z b c (wr.alloc (.cells #[.string s] 9))) := hI.out.alloc _
            have HG := Lib.hid (Blk.new wr 9 #[.string s])
            have KP := Lib.hid (fun (W : World) (hW : CInv w P E zb z b c W) (hS : Blk W wr.heap.size 9 #[.string s]) => of_calls 94 eg94 #[.pointer (some ⟨wr.heap.size, 0, none⟩)] (zb.pA 2) (b.p 2) (zb.pc 2) (uriR · s) W ((hw.out.1.later hW.below).p.t 2 (by omega)) (by omega) (fun x hx W' hW' => askUri_fn x s _ W' (hS.later hW') (by have := (HOB.out.p 2 (by omega) x hx).1; omega) hss))
            have KE := Lib.hid (fun (W : World) (hW : CInv w P E zb z b c W) (hS : Blk W wr.heap.size 9 #[.string s]) => of_calls 94 eg94 #[.pointer (some ⟨wr.heap.size, 0, none⟩)] (zb.eA 2) (b.e 2) (zb.ec 2) (uriR · s) W ((hw.out.1.later hW.below).e.t 2 (by omega)) (by omega) (fun x hx W' hW' => askUri_fn x s _ W' (hS.later hW') (by have := (HOB.out.e 2 (by omega) x hx).1; omega) hss))
            have hPl : ((b.p 2).map (uriR · s)).length ≤ 1000000 := by rw [List.length_map]; omega
            have hEl : ((b.e 2).map (uriR · s)).length ≤ 1000000 := by rw [List.length_map]; omega
            have hrl := ruledR_le ((b.p 2).map (uriR · s)) ((b.e 2).map (uriR · s))
            generalize (b.p 2).map (uriR · s) = PL at *
            generalize (b.e 2).map (uriR · s) = EL at *
            have HST := Lib.hid hst
            clear hst hss
            have Hr2 := hr2
            go_wp2
            go_region_held3 (fun W => W.cell? ⟨P, 2, none⟩ = some (.slice (zb.pA 2) (b.p 2).length (zb.pc 2)) ∧ W.cell? ⟨E, 2, none⟩ = some (.slice (zb.eA 2) (b.e 2).length (zb.ec 2)))
              (first | exact ⟨hI1.out.drew.p.at_ 2 rfl, hI1.out.drew.e.at_ 2 rfl⟩ | exact ⟨J2.out.p.at_ 2 rfl, J2.out.e.at_ 2 rfl⟩ | exact ⟨J1.out.p.at_ 2 rfl, J1.out.e.at_ 2 rfl⟩)
              (first
                | (go_at_call 93; (with_reducible refine (KP.out _ hI1.out.drew HG.out.drew).mono ?_); rintro e w1 ⟨vp, rfl, tp, bp⟩; obtain ⟨A1, k1, rfl, n1⟩ := NumsAt.of_row tp; have J1 := Lib.hid (hI1.out.drew.later bp); have G1 := Lib.hid (HG.out.drew.later bp); have N1 := Lib.hid n1; clear tp n1 bp)
                | (go_at_call 93; (with_reducible refine (KE.out _ J1.out G1.out).mono ?_); rintro e w2 ⟨ve, rfl, te, be⟩; obtain ⟨A2, k2, rfl, n2⟩ := NumsAt.of_row te; have J2 := Lib.hid (J1.out.later be); have M1 := Lib.hid (N1.out.later be); have M2 := Lib.hid n2; clear te n2 be)
                | (go_at_call 93; (with_reducible refine (KE.out _ hI1.out.drew HG.out.drew).mono ?_); rintro e w1 ⟨ve, rfl, te, be⟩; obtain ⟨A2, k2, rfl, n2⟩ := NumsAt.of_row te; have J1 := Lib.hid (hI1.out.drew.later be); have G1 := Lib.hid (HG.out.drew.later be); have N1 := Lib.hid n2; clear te n2 be)
                | (go_at_call 93; (with_reducible refine (KP.out _ J1.out G1.out).mono ?_); rintro e w2 ⟨vp, rfl, tp, bp⟩; obtain ⟨A1, k1, rfl, n1⟩ := NumsAt.of_row tp; have J2 := Lib.hid (J1.out.later bp); have M2 := Lib.hid (N1.out.later bp); have M1 := Lib.hid n1; clear tp n1 bp)
                | (go_at_call 92; (with_reducible refine (ruled_calls A1 A2 PL EL k1 k2 _ M1.out M2.out hPl hEl).mono ?_); rintro e w3 ⟨rfl, rfl⟩)
                | (go_at_call 68; (with_reducible refine (worst_calls r (ruledR PL EL) _ Hr2 hrl).mono ?_); rintro e w4 ⟨rfl, rfl⟩))
            all_goals go_wp2
            all_goals go_roundw
            case rel => exact ⟨k + 1, worstR r (ruledR PL EL), by go_num, by omega, rfl, worstR_le Hr2 hrl, J2, HST.out.symm⟩
            case measure => simp only [intOf]; omega
          · obtain rfl : k = (c.s 2).length := by omega
            have hr1 : r = (((c.s 0).map (dnsL b)) ++ ((c.s 2).map (uriL b))).foldl worstR 0 := by rw [hr.out, List.take_of_length_le (by simp)]
            have HRR := Lib.hid hr1
            have HRL := hr2
            have HI := hI
            have c9 : wr.cell? ⟨w.heap.size + 1, 9, none⟩ = some (.slice (z.fA 1) (c.s 1).length (z.fc 1)) := hI.out.c.at_ 9 rfl
            clear hI hr hr1 hr2
            go_wp2
            go_loopw [5, 68] (fun o i wr => ∃ k r : Nat, i = .int .i64 k ∧ k ≤ (c.s 1).length ∧ o = .int .i64 r ∧ r ≤ 2 ∧ Hid (CInv w P E zb z b c wr) ∧ Hid (r = (((c.s 0).map (dnsL b)) ++ ((c.s 2).map (uriL b)) ++ ((c.s 1).map (mailL b)).take k).foldl worstR 0)) (fun _ i _ => (c.s 1).length - (intOf i).toNat)
            case atStart => exact ⟨0, r, rfl, Nat.zero_le _, rfl, HRL, HI.out, by show _ = _; rw [HRR.out, List.take_zero, List.append_nil]⟩
            case round =>
              obtain ⟨k, r, rfl, hk, rfl, hr2, hI, hr⟩ := hrel
              clear HI c9 HRR HRL
              by_cases hlt : k < (c.s 1).length
              · obtain ⟨ad, had, cx⟩ := ((hw.out.2.later hI.out.below).s 1 (by omega)).cellAt k hlt
                have hbx := HBX.out _ (List.getElem_mem hlt)
                have hss : ((c.s 1)[k]).size ≤ 2147483647 := by have := (HOC.out.box _ (List.getElem_mem hlt)).size; omega
                have hst := fold_step (((c.s 0).map (dnsL b)) ++ ((c.s 2).map (uriL b))) ((c.s 1).map (mailL b)) k (by simpa using hlt)
                rw [← hr.out, List.getElem_map] at hst
                unfold mailL at hst
                rw [had]
                have HAD := Lib.hid had
                clear had hr
                generalize (c.s 1)[k] = s at *
                have HCT := Lib.hid (cutTwo_calls s wr hss (boxB_parts hbx).1)
                have hds : (cutD s).size ≤ 2147483647 := by have := cutD_le s; omega
                have hPl : ((b.p 1).map (mailR · (cutL s) (cutD s))).length ≤ 1000000 := by rw [List.length_map]; omega
                have hEl : ((b.e 1).map (mailR · (cutL s) (cutD s))).length ≤ 1000000 := by rw [List.length_map]; omega
                have hrl := ruledR_le ((b.p 1).map (mailR · (cutL s) (cutD s))) ((b.e 1).map (mailR · (cutL s) (cutD s)))
                have KP := Lib.hid (fun (g : Nat) (W : World) (hW : CInv w P E zb z b c W) (hS : Blk W g 9 #[.string (cutL s)]) (hT : Blk W (g + 1) 9 #[.string (cutD s)]) => of_calls 97 eg97 #[.pointer (some ⟨g, 0, none⟩), .pointer (some ⟨g + 1, 0, none⟩)] (zb.pA 1) (b.p 1) (zb.pc 1) (mailR · (cutL s) (cutD s)) W ((hw.out.1.later hW.below).p.t 1 (by omega)) (by omega) (fun x hx W' hW' => askMail_fn x (cutL s) (cutD s) _ _ W' (hS.later hW') (hT.later hW') (by have := (HOB.out.p 1 (by omega) x hx).1; omega) hds))
                have KE := Lib.hid (fun (g : Nat) (W : World) (hW : CInv w P E zb z b c W) (hS : Blk W g 9 #[.string (cutL s)]) (hT : Blk W (g + 1) 9 #[.string (cutD s)]) => of_calls 97 eg97 #[.pointer (some ⟨g, 0, none⟩), .pointer (some ⟨g + 1, 0, none⟩)] (zb.eA 1) (b.e 1) (zb.ec 1) (mailR · (cutL s) (cutD s)) W ((hw.out.1.later hW.below).e.t 1 (by omega)) (by omega) (fun x hx W' hW' => askMail_fn x (cutL s) (cutD s) _ _ W' (hS.later hW') (hT.later hW') (by have := (HOB.out.e 1 (by omega) x hx).1; omega) hds))
                generalize (b.p 1).map (mailR · (cutL s) (cutD s)) = PL at *
                generalize (b.e 1).map (mailR · (cutL s) (cutD s)) = EL at *
                generalize cutL s = sa at *
                generalize cutD s = sd at *
                have HST := Lib.hid hst
                clear hst hss hds hbx
                have Hr2 := hr2
                go_wp2_with (first
                  | (go_at_call 96; (with_reducible refine HCT.out.mono ?_); rintro e wt ⟨rfl, bt⟩; have hIt := Lib.hid (hI.out.later bt); have hI1 : Hid (CInv w P E zb z b c ((wt.alloc (.cells #[.string sa] 9)).alloc (.cells #[.string sd] 9))) := (hIt.out.alloc _).alloc _; have hzt : (wt.alloc (.cells #[.string sa] 9)).heap.size = wt.heap.size + 1 := World.size_alloc _ _; have HG := Lib.hid (And.intro ((Blk.new wt 9 #[.string sa]).alloc (.cells #[.string sd] 9)) (hzt ▸ Blk.new (wt.alloc (.cells #[.string sa] 9)) 9 #[.string sd])))
                  | fail)
                go_region_held3 (fun W => W.cell? ⟨P, 1, none⟩ = some (.slice (zb.pA 1) (b.p 1).length (zb.pc 1)) ∧ W.cell? ⟨E, 1, none⟩ = some (.slice (zb.eA 1) (b.e 1).length (zb.ec 1)))
                  (first | exact ⟨hI1.out.drew.p.at_ 1 rfl, hI1.out.drew.e.at_ 1 rfl⟩ | exact ⟨J2.out.p.at_ 1 rfl, J2.out.e.at_ 1 rfl⟩ | exact ⟨J1.out.p.at_ 1 rfl, J1.out.e.at_ 1 rfl⟩)
                  (first
                    | (go_at_call 93; (with_reducible refine (KP.out wt.heap.size _ hI1.out.drew HG.out.1.drew HG.out.2.drew).mono ?_); rintro e w1 ⟨vp, rfl, tp, bp⟩; obtain ⟨A1, k1, rfl, n1⟩ := NumsAt.of_row tp; have J1 := Lib.hid (hI1.out.drew.later bp); have G1 := Lib.hid (And.intro (HG.out.1.drew.later bp) (HG.out.2.drew.later bp)); have N1 := Lib.hid n1; clear tp n1 bp)
                    | (go_at_call 93; (with_reducible refine (KE.out wt.heap.size _ J1.out G1.out.1 G1.out.2).mono ?_); rintro e w2 ⟨ve, rfl, te, be⟩; obtain ⟨A2, k2, rfl, n2⟩ := NumsAt.of_row te; have J2 := Lib.hid (J1.out.later be); have M1 := Lib.hid (N1.out.later be); have M2 := Lib.hid n2; clear te n2 be)
                    | (go_at_call 93; (with_reducible refine (KE.out wt.heap.size _ hI1.out.drew HG.out.1.drew HG.out.2.drew).mono ?_); rintro e w1 ⟨ve, rfl, te, be⟩; obtain ⟨A2, k2, rfl, n2⟩ := NumsAt.of_row te; have J1 := Lib.hid (hI1.out.drew.later be); have G1 := Lib.hid (And.intro (HG.out.1.drew.later be) (HG.out.2.drew.later be)); have N1 := Lib.hid n2; clear te n2 be)
                    | (go_at_call 93; (with_reducible refine (KP.out wt.heap.size _ J1.out G1.out.1 G1.out.2).mono ?_); rintro e w2 ⟨vp, rfl, tp, bp⟩; obtain ⟨A1, k1, rfl, n1⟩ := NumsAt.of_row tp; have J2 := Lib.hid (J1.out.later bp); have M2 := Lib.hid (N1.out.later bp); have M1 := Lib.hid n1; clear tp n1 bp)
                    | (go_at_call 92; (with_reducible refine (ruled_calls A1 A2 PL EL k1 k2 _ M1.out M2.out hPl hEl).mono ?_); rintro e w3 ⟨rfl, rfl⟩)
                    | (go_at_call 68; (with_reducible refine (worst_calls r (ruledR PL EL) _ Hr2 hrl).mono ?_); rintro e w4 ⟨rfl, rfl⟩))
                all_goals go_wp2
                all_goals go_roundw
                case rel => exact ⟨k + 1, worstR r (ruledR PL EL), by go_num, by omega, rfl, worstR_le Hr2 hrl, J2, HST.out.symm⟩
                case measure => simp only [intOf]; omega
              · obtain rfl : k = (c.s 1).length := by omega
                have hr1 : r = (((c.s 0).map (dnsL b)) ++ ((c.s 2).map (uriL b)) ++ ((c.s 1).map (mailL b))).foldl worstR 0 := by rw [hr.out, List.take_of_length_le (by simp)]
                have HRR := Lib.hid hr1
                have HRL := hr2
                have HI := hI
                have c11 : wr.cell? ⟨w.heap.size + 1, 11, none⟩ = some (.slice (z.fA 3) c.ad.length (z.fc 3)) := hI.out.c.at_ 11 rfl
                clear hI hr hr1 hr2
                go_wp2
                go_loopw [5, 93] (fun o i wr => ∃ k r : Nat, i = .int .i64 k ∧ k ≤ c.ad.length ∧ o = .int .i64 r ∧ r ≤ 2 ∧ Hid (CInv w P E zb z b c wr) ∧ Hid (r = (((c.s 0).map (dnsL b)) ++ ((c.s 2).map (uriL b)) ++ ((c.s 1).map (mailL b)) ++ (c.ad.map (ipL b)).take k).foldl worstR 0)) (fun _ i _ => c.ad.length - (intOf i).toNat)
                case atStart => exact ⟨0, r, rfl, Nat.zero_le _, rfl, HRL, HI.out, by show _ = _; rw [HRR.out, List.take_zero, List.append_nil]⟩
                case round =>
                  obtain ⟨k, r, rfl, hk, rfl, hr2, hI, hr⟩ := hrel
                  clear HI c11 HRR HRL
                  by_cases hlt : k < c.ad.length
                  · obtain ⟨aa, ac, ha1, ha2⟩ := (hw.out.2.later hI.out.below).a
                    obtain ⟨ad, had, cx⟩ := ha1 k hlt
                    have hgd : c.ad.getD k [] = c.ad[k] := by simp [hlt]
                    rw [hgd] at cx
                    have hby := ha2 k hlt
                    have hst := fold_step (((c.s 0).map (dnsL b)) ++ ((c.s 2).map (uriL b)) ++ ((c.s 1).map (mailL b))) (c.ad.map (ipL b)) k (by simpa using hlt)
                    rw [← hr.out, List.getElem_map] at hst
                    unfold ipL at hst
                    rw [had]
                    have HAD := Lib.hid had
                    clear had hr ha1 ha2 hgd
                    generalize c.ad[k] = a at *
                    have hI1 : Hid (CInv w P E zb z b c wr) := hI
                    have HG := Lib.hid hby
                    have KP := Lib.hid (fun (W : World) (hW : CInv w P E zb z b c W) (hS : Byt W (aa k) a) => ofNets_calls (zb.pA 3) (aa k) b.pn a (zb.pc 3) (ac k) W (hw.out.1.later hW.below).p.n hS (fun n hn => by have h := HOB.out.pn.2 n hn; exact ⟨h.len, by have := addrB_len h.addr; omega⟩) (by omega))
                    have KE := Lib.hid (fun (W : World) (hW : CInv w P E zb z b c W) (hS : Byt W (aa k) a) => ofNets_calls (zb.eA 3) (aa k) b.en a (zb.ec 3) (ac k) W (hw.out.1.later hW.below).e.n hS (fun n hn => by have h := HOB.out.en.2 n hn; exact ⟨h.len, by have := addrB_len h.addr; omega⟩) (by omega))
                    have hPl : (b.pn.map (ipR · a)).length ≤ 1000000 := by rw [List.length_map]; omega
                    have hEl : (b.en.map (ipR · a)).length ≤ 1000000 := by rw [List.length_map]; omega
                    have hrl := ruledR_le (b.pn.map (ipR · a)) (b.en.map (ipR · a))
                    generalize b.pn.map (ipR · a) = PL at *
                    generalize b.en.map (ipR · a) = EL at *
                    have HST := Lib.hid hst
                    clear hst hby
                    have Hr2 := hr2
                    go_wp2
                    go_region_held3 (fun W => W.cell? ⟨P, 3, none⟩ = some (.slice (zb.pA 3) b.pn.length (zb.pc 3)) ∧ W.cell? ⟨E, 3, none⟩ = some (.slice (zb.eA 3) b.en.length (zb.ec 3)))
                      (first | exact ⟨hI1.out.drew.p.at_ 3 rfl, hI1.out.drew.e.at_ 3 rfl⟩ | exact ⟨J2.out.p.at_ 3 rfl, J2.out.e.at_ 3 rfl⟩ | exact ⟨J1.out.p.at_ 3 rfl, J1.out.e.at_ 3 rfl⟩)
                      (first
                        | (go_at_call 99; (with_reducible refine (KP.out _ hI1.out.drew (HG.out.later (Below.refl _ _).drew)).mono ?_); rintro e w1 ⟨vp, rfl, tp, bp⟩; obtain ⟨A1, k1, rfl, n1⟩ := NumsAt.of_row tp; have J1 := Lib.hid (hI1.out.drew.later bp); have G1 := Lib.hid ((HG.out.later (Below.refl _ _).drew).later bp); have N1 := Lib.hid n1; clear tp n1 bp)
                        | (go_at_call 99; (with_reducible refine (KE.out _ J1.out G1.out).mono ?_); rintro e w2 ⟨ve, rfl, te, be⟩; obtain ⟨A2, k2, rfl, n2⟩ := NumsAt.of_row te; have J2 := Lib.hid (J1.out.later be); have M1 := Lib.hid (N1.out.later be); have M2 := Lib.hid n2; clear te n2 be)
                        | (go_at_call 99; (with_reducible refine (KE.out _ hI1.out.drew (HG.out.later (Below.refl _ _).drew)).mono ?_); rintro e w1 ⟨ve, rfl, te, be⟩; obtain ⟨A2, k2, rfl, n2⟩ := NumsAt.of_row te; have J1 := Lib.hid (hI1.out.drew.later be); have G1 := Lib.hid ((HG.out.later (Below.refl _ _).drew).later be); have N1 := Lib.hid n2; clear te n2 be)
                        | (go_at_call 99; (with_reducible refine (KP.out _ J1.out G1.out).mono ?_); rintro e w2 ⟨vp, rfl, tp, bp⟩; obtain ⟨A1, k1, rfl, n1⟩ := NumsAt.of_row tp; have J2 := Lib.hid (J1.out.later bp); have M2 := Lib.hid (N1.out.later bp); have M1 := Lib.hid n1; clear tp n1 bp)
                        | (go_at_call 92; (with_reducible refine (ruled_calls A1 A2 PL EL k1 k2 _ M1.out M2.out hPl hEl).mono ?_); rintro e w3 ⟨rfl, rfl⟩)
                        | (go_at_call 68; (with_reducible refine (worst_calls r (ruledR PL EL) _ Hr2 hrl).mono ?_); rintro e w4 ⟨rfl, rfl⟩))
                    all_goals go_wp2
                    all_goals go_roundw
                    case rel => exact ⟨k + 1, worstR r (ruledR PL EL), by go_num, by omega, rfl, worstR_le Hr2 hrl, J2, HST.out.symm⟩
                    case measure => simp only [intOf]; omega
                  · obtain rfl : k = c.ad.length := by omega
                    have hr1 : r = (((c.s 0).map (dnsL b)) ++ ((c.s 2).map (uriL b)) ++ ((c.s 1).map (mailL b)) ++ (c.ad.map (ipL b))).foldl worstR 0 := by rw [hr.out, List.take_of_length_le (by simp)]
                    have HRR := Lib.hid hr1
                    have HRL := hr2
                    have HI := hI
                    clear hr hr1 hr2 hI
                    go_wp2
                    go_ret
                    exact ⟨by rw [HRR.out]; rfl, HI.out.below⟩
end Go.Proofs.YtblabjfjhlablaaGreatDoor
/- The walk of spec's Chain. -/
namespace Go.Proofs.YtblabjfjhlablaaGreatDoor
open Go.RowKit Go.Sort Nc
def rowF (c : GC) (b : GC) : Nat := (checkedL b c).foldl worstR 0
theorem chain_cons (c : GC) (r : List GC) : chainL (c :: r) = r.map (rowF c) ++ chainL r := rfl
theorem rowF_le (c b : GC) : rowF c b ≤ 2 := worstL_le (checkedL_le b c)
theorem certs12 {w : World} {A : Option Addr} {n : Nat} {ks : Nat → GC} {zs : Nat → GSlots} (h : ChainRd w A n ks zs) {k g off o : Nat} (hk : k < n) (hA : A = some ⟨g, off, none⟩) (ho : o = off + k * 12) : w.cell? ⟨g, o, none⟩ = some (.slice ((zs k).pA 0) ((ks k).p 0).length ((zs k).pc 0)) ∧ w.cell? ⟨g, o + 1, none⟩ = some (.slice ((zs k).pA 1) ((ks k).p 1).length ((zs k).pc 1)) ∧ w.cell? ⟨g, o + 2, none⟩ = some (.slice ((zs k).pA 2) ((ks k).p 2).length ((zs k).pc 2)) ∧ w.cell? ⟨g, o + 3, none⟩ = some (.slice ((zs k).pA 3) (ks k).pn.length ((zs k).pc 3)) ∧ w.cell? ⟨g, o + 4, none⟩ = some (.slice ((zs k).eA 0) ((ks k).e 0).length ((zs k).ec 0)) ∧ w.cell? ⟨g, o + 5, none⟩ = some (.slice ((zs k).eA 1) ((ks k).e 1).length ((zs k).ec 1)) ∧ w.cell? ⟨g, o + 6, none⟩ = some (.slice ((zs k).eA 2) ((ks k).e 2).length ((zs k).ec 2)) ∧ w.cell? ⟨g, o + 7, none⟩ = some (.slice ((zs k).eA 3) (ks k).en.length ((zs k).ec 3)) ∧ w.cell? ⟨g, o + 8, none⟩ = some (.slice ((zs k).fA 0) ((ks k).s 0).length ((zs k).fc 0)) ∧ w.cell? ⟨g, o + 9, none⟩ = some (.slice ((zs k).fA 1) ((ks k).s 1).length ((zs k).fc 1)) ∧ w.cell? ⟨g, o + 10, none⟩ = some (.slice ((zs k).fA 2) ((ks k).s 2).length ((zs k).fc 2)) ∧ w.cell? ⟨g, o + 11, none⟩ = some (.slice ((zs k).fA 3) (ks k).ad.length ((zs k).fc 3)) := by
  obtain ⟨g', off', e, hat⟩ := h.at_ (by omega)
  rw [hA] at e
  injection e with e
  injection e with e1 e2 _
  subst e1 e2 ho
  have hj := hat k hk
  obtain ⟨a0, a4, a8⟩ := hj 0 (by omega)
  obtain ⟨a1, a5, a9⟩ := hj 1 (by omega)
  obtain ⟨a2, a6, a10⟩ := hj 2 (by omega)
  obtain ⟨a3, a7, a11⟩ := hj 3 (by omega)
  exact ⟨a0, a1, a2, a3, a4, a5, a6, a7, a8, a9, a10, a11⟩
set_option maxRecDepth 100000 in
set_option maxHeartbeats 2000000 in
theorem specChain_calls (A : Option Addr) (n cap : Nat) (ks : Nat → GC) (zs : Nat → GSlots) (l : List GC) (w : World) (h : ChainRd w A n ks zs) (hl : l.length = n) (hk : ∀ k (hk : k < l.length), ks k = l[k]) (hok : ∀ c ∈ l, certB c = true) (hn : n ≤ 8) (hcap : n ≤ cap) :
    Calls Tryz.prog 33 #[.slice A n cap] w fun e w' => e = .returned (.int .i64 ((chainL l).foldl worstR 0 : Nat)) ∧ Below w.heap.size w w' := by
  obtain ⟨T, hT⟩ : ∃ T, T = (chainL l).foldl worstR 0 := ⟨_, rfl⟩
  rw [← hT]
  have HT := Lib.hid hT
  have H := Lib.hid h
  have HK := Lib.hid hk
  have HO := Lib.hid hok
  have HL := Lib.hid hl
  clear h hk hok hT hl
  go_enter Tryz.func33, Tryz.ntmps33
  go_wp2
  go_loopw [3, 10] (fun o i wr => ∃ k r : Nat, i = .int .i64 k ∧ k ≤ n ∧ o = .int .i64 r ∧ r ≤ 2 ∧ Below w.heap.size w wr ∧ Hid ((chainL (l.drop k)).foldl worstR r = T)) (fun _ i _ => n - (intOf i).toNat)
  case atStart => exact ⟨0, 0, rfl, Nat.zero_le _, rfl, by omega, Below.refl _ _, HT.out.symm⟩
  case round =>
    obtain ⟨k, r, rfl, hkn, rfl, hr2, hbr, hr⟩ := hrel
    by_cases hlt : k < n
    · obtain ⟨w1, hw1⟩ : ∃ w1, w1 = wr := ⟨_, rfl⟩
      subst hw1
      have hkl : k < l.length := by rw [HL.out]; exact hlt
      have hd := hr.out
      rw [List.drop_eq_getElem_cons hkl, chain_cons] at hd
      have HD := Lib.hid hd
      obtain ⟨g, off, rfl, _⟩ := H.out.at_ (by omega)
      obtain ⟨a0, a1, a2, a3, a4, a5, a6, a7, a8, a9, a10, a11⟩ := certs12 (H.out.later hbr) (o := off + k * 12) hlt rfl rfl
      have y1 : IntKind.i64.wrap ((k : Int) + 1) = ((k + 1 : Nat) : Int) := by rw [Go.IntWalk.i64_in _ (by omega)]; omega
      have hb0 := hbr.alloc hbr.size (.cells #[.slice ((zs k).pA 0) ((ks k).p 0).length ((zs k).pc 0), .slice ((zs k).pA 1) ((ks k).p 1).length ((zs k).pc 1), .slice ((zs k).pA 2) ((ks k).p 2).length ((zs k).pc 2), .slice ((zs k).pA 3) (ks k).pn.length ((zs k).pc 3), .slice ((zs k).eA 0) ((ks k).e 0).length ((zs k).ec 0), .slice ((zs k).eA 1) ((ks k).e 1).length ((zs k).ec 1), .slice ((zs k).eA 2) ((ks k).e 2).length ((zs k).ec 2), .slice ((zs k).eA 3) (ks k).en.length ((zs k).ec 3), .slice ((zs k).fA 0) ((ks k).s 0).length ((zs k).fc 0), .slice ((zs k).fA 1) ((ks k).s 1).length ((zs k).fc 1), .slice ((zs k).fA 2) ((ks k).s 2).length ((zs k).fc 2), .slice ((zs k).fA 3) (ks k).ad.length ((zs k).fc 3)] 30)
      have hB0 := Blk.new w1 30 #[.slice ((zs k).pA 0) ((ks k).p 0).length ((zs k).pc 0), .slice ((zs k).pA 1) ((ks k).p 1).length ((zs k).pc 1), .slice ((zs k).pA 2) ((ks k).p 2).length ((zs k).pc 2), .slice ((zs k).pA 3) (ks k).pn.length ((zs k).pc 3), .slice ((zs k).eA 0) ((ks k).e 0).length ((zs k).ec 0), .slice ((zs k).eA 1) ((ks k).e 1).length ((zs k).ec 1), .slice ((zs k).eA 2) ((ks k).e 2).length ((zs k).ec 2), .slice ((zs k).eA 3) (ks k).en.length ((zs k).ec 3), .slice ((zs k).fA 0) ((ks k).s 0).length ((zs k).fc 0), .slice ((zs k).fA 1) ((ks k).s 1).length ((zs k).fc 1), .slice ((zs k).fA 2) ((ks k).s 2).length ((zs k).fc 2), .slice ((zs k).fA 3) (ks k).ad.length ((zs k).fc 3)]
      have HB0 := Lib.hid (And.intro hb0 hB0)
      have hckm : l[k] ∈ l := List.getElem_mem hkl
      have HCK := Lib.hid (show ks k = l[k] from HK.out k hkl)
      clear hd hr hb0 hB0
      generalize l[k] = ck at *
      by_cases hc : cap = k + 1
      · subst hc
        go_wp2
        go_loopw [3, 20] (fun o i wr => ∃ j q : Nat, i = .int .i64 j ∧ j ≤ n - (k + 1) ∧ o = .int .i64 q ∧ q ≤ 2 ∧ Below w.heap.size w wr ∧ Blk wr w1.heap.size 30 #[.slice ((zs k).pA 0) ((ks k).p 0).length ((zs k).pc 0), .slice ((zs k).pA 1) ((ks k).p 1).length ((zs k).pc 1), .slice ((zs k).pA 2) ((ks k).p 2).length ((zs k).pc 2), .slice ((zs k).pA 3) (ks k).pn.length ((zs k).pc 3), .slice ((zs k).eA 0) ((ks k).e 0).length ((zs k).ec 0), .slice ((zs k).eA 1) ((ks k).e 1).length ((zs k).ec 1), .slice ((zs k).eA 2) ((ks k).e 2).length ((zs k).ec 2), .slice ((zs k).eA 3) (ks k).en.length ((zs k).ec 3), .slice ((zs k).fA 0) ((ks k).s 0).length ((zs k).fc 0), .slice ((zs k).fA 1) ((ks k).s 1).length ((zs k).fc 1), .slice ((zs k).fA 2) ((ks k).s 2).length ((zs k).fc 2), .slice ((zs k).fA 3) (ks k).ad.length ((zs k).fc 3)] ∧ Hid (((l.drop (k + 1 + j)).map (rowF ck) ++ chainL (l.drop (k + 1))).foldl worstR q = T)) (fun _ i _ => n - (k + 1) - (intOf i).toNat)
        case atStart => exact ⟨0, r, rfl, Nat.zero_le _, rfl, hr2, HB0.out.1, HB0.out.2, HD.out⟩
        case round =>
          obtain ⟨j, q, rfl, hjn, rfl, hq2, hbv, hkb, hq⟩ := hrel
          clear HB0 HD a0 a1 a2 a3 a4 a5 a6 a7 a8 a9 a10 a11
          by_cases hjl : j < n - (k + 1)
          · exfalso; omega
          · have hje : k + 1 + j = n := by omega
            have hq1 := hq.out
            rw [List.drop_eq_nil_of_le (by rw [HL.out]; omega), List.map_nil, List.nil_append] at hq1
            have HQ1 := Lib.hid hq1
            have hjx : j = n - (k + 1) := by omega
            subst hjx
            clear hq hq1 hkb hje
            go_wp2
            go_roundw
            case rel => exact ⟨k + 1, q, by go_num, by omega, rfl, hq2, hbv, HQ1.out⟩
            case measure => simp only [intOf]; omega
      · have hk1 : k + 1 ≤ n := by omega
        go_wp2
        go_loopw [3, 20] (fun o i wr => ∃ j q : Nat, i = .int .i64 j ∧ j ≤ n - (k + 1) ∧ o = .int .i64 q ∧ q ≤ 2 ∧ Below w.heap.size w wr ∧ Blk wr w1.heap.size 30 #[.slice ((zs k).pA 0) ((ks k).p 0).length ((zs k).pc 0), .slice ((zs k).pA 1) ((ks k).p 1).length ((zs k).pc 1), .slice ((zs k).pA 2) ((ks k).p 2).length ((zs k).pc 2), .slice ((zs k).pA 3) (ks k).pn.length ((zs k).pc 3), .slice ((zs k).eA 0) ((ks k).e 0).length ((zs k).ec 0), .slice ((zs k).eA 1) ((ks k).e 1).length ((zs k).ec 1), .slice ((zs k).eA 2) ((ks k).e 2).length ((zs k).ec 2), .slice ((zs k).eA 3) (ks k).en.length ((zs k).ec 3), .slice ((zs k).fA 0) ((ks k).s 0).length ((zs k).fc 0), .slice ((zs k).fA 1) ((ks k).s 1).length ((zs k).fc 1), .slice ((zs k).fA 2) ((ks k).s 2).length ((zs k).fc 2), .slice ((zs k).fA 3) (ks k).ad.length ((zs k).fc 3)] ∧ Hid (((l.drop (k + 1 + j)).map (rowF ck) ++ chainL (l.drop (k + 1))).foldl worstR q = T)) (fun _ i _ => n - (k + 1) - (intOf i).toNat)
        case atStart => exact ⟨0, r, rfl, Nat.zero_le _, rfl, hr2, HB0.out.1, HB0.out.2, HD.out⟩
        case round =>
          obtain ⟨j, q, rfl, hjn, rfl, hq2, hbv, hkb, hq⟩ := hrel
          clear HB0 HD a0 a1 a2 a3 a4 a5 a6 a7 a8 a9 a10 a11
          by_cases hjl : j < n - (k + 1)
          · have hm : k + 1 + j < n := by omega
            have hml : k + 1 + j < l.length := by rw [HL.out]; exact hm
            obtain ⟨b0, b1, b2, b3, b4, b5, b6, b7, b8, b9, b10, b11⟩ := certs12 (H.out.later hbv) (o := off + (k + 1) * 12 + j * 12) hm rfl (by omega)
            have hd2 := hq.out
            rw [List.drop_eq_getElem_cons hml, List.map_cons, List.cons_append, List.foldl_cons] at hd2
            have hfr := rowF_le ck l[k + 1 + j]
            have hcm : ks (k + 1 + j) = l[k + 1 + j] := HK.out _ hml
            have hbA := hbv.alloc hbv.size (.cells #[.slice ((zs (k + 1 + j)).pA 0) ((ks (k + 1 + j)).p 0).length ((zs (k + 1 + j)).pc 0), .slice ((zs (k + 1 + j)).pA 1) ((ks (k + 1 + j)).p 1).length ((zs (k + 1 + j)).pc 1), .slice ((zs (k + 1 + j)).pA 2) ((ks (k + 1 + j)).p 2).length ((zs (k + 1 + j)).pc 2), .slice ((zs (k + 1 + j)).pA 3) (ks (k + 1 + j)).pn.length ((zs (k + 1 + j)).pc 3), .slice ((zs (k + 1 + j)).eA 0) ((ks (k + 1 + j)).e 0).length ((zs (k + 1 + j)).ec 0), .slice ((zs (k + 1 + j)).eA 1) ((ks (k + 1 + j)).e 1).length ((zs (k + 1 + j)).ec 1), .slice ((zs (k + 1 + j)).eA 2) ((ks (k + 1 + j)).e 2).length ((zs (k + 1 + j)).ec 2), .slice ((zs (k + 1 + j)).eA 3) (ks (k + 1 + j)).en.length ((zs (k + 1 + j)).ec 3), .slice ((zs (k + 1 + j)).fA 0) ((ks (k + 1 + j)).s 0).length ((zs (k + 1 + j)).fc 0), .slice ((zs (k + 1 + j)).fA 1) ((ks (k + 1 + j)).s 1).length ((zs (k + 1 + j)).fc 1), .slice ((zs (k + 1 + j)).fA 2) ((ks (k + 1 + j)).s 2).length ((zs (k + 1 + j)).fc 2), .slice ((zs (k + 1 + j)).fA 3) (ks (k + 1 + j)).ad.length ((zs (k + 1 + j)).fc 3)] 30)
            have hmb := Blk.new wr 30 #[.slice ((zs (k + 1 + j)).pA 0) ((ks (k + 1 + j)).p 0).length ((zs (k + 1 + j)).pc 0), .slice ((zs (k + 1 + j)).pA 1) ((ks (k + 1 + j)).p 1).length ((zs (k + 1 + j)).pc 1), .slice ((zs (k + 1 + j)).pA 2) ((ks (k + 1 + j)).p 2).length ((zs (k + 1 + j)).pc 2), .slice ((zs (k + 1 + j)).pA 3) (ks (k + 1 + j)).pn.length ((zs (k + 1 + j)).pc 3), .slice ((zs (k + 1 + j)).eA 0) ((ks (k + 1 + j)).e 0).length ((zs (k + 1 + j)).ec 0), .slice ((zs (k + 1 + j)).eA 1) ((ks (k + 1 + j)).e 1).length ((zs (k + 1 + j)).ec 1), .slice ((zs (k + 1 + j)).eA 2) ((ks (k + 1 + j)).e 2).length ((zs (k + 1 + j)).ec 2), .slice ((zs (k + 1 + j)).eA 3) (ks (k + 1 + j)).en.length ((zs (k + 1 + j)).ec 3), .slice ((zs (k + 1 + j)).fA 0) ((ks (k + 1 + j)).s 0).length ((zs (k + 1 + j)).fc 0), .slice ((zs (k + 1 + j)).fA 1) ((ks (k + 1 + j)).s 1).length ((zs (k + 1 + j)).fc 1), .slice ((zs (k + 1 + j)).fA 2) ((ks (k + 1 + j)).s 2).length ((zs (k + 1 + j)).fc 2), .slice ((zs (k + 1 + j)).fA 3) (ks (k + 1 + j)).ad.length ((zs (k + 1 + j)).fc 3)]
            have hkA := hkb.alloc (.cells #[.slice ((zs (k + 1 + j)).pA 0) ((ks (k + 1 + j)).p 0).length ((zs (k + 1 + j)).pc 0), .slice ((zs (k + 1 + j)).pA 1) ((ks (k + 1 + j)).p 1).length ((zs (k + 1 + j)).pc 1), .slice ((zs (k + 1 + j)).pA 2) ((ks (k + 1 + j)).p 2).length ((zs (k + 1 + j)).pc 2), .slice ((zs (k + 1 + j)).pA 3) (ks (k + 1 + j)).pn.length ((zs (k + 1 + j)).pc 3), .slice ((zs (k + 1 + j)).eA 0) ((ks (k + 1 + j)).e 0).length ((zs (k + 1 + j)).ec 0), .slice ((zs (k + 1 + j)).eA 1) ((ks (k + 1 + j)).e 1).length ((zs (k + 1 + j)).ec 1), .slice ((zs (k + 1 + j)).eA 2) ((ks (k + 1 + j)).e 2).length ((zs (k + 1 + j)).ec 2), .slice ((zs (k + 1 + j)).eA 3) (ks (k + 1 + j)).en.length ((zs (k + 1 + j)).ec 3), .slice ((zs (k + 1 + j)).fA 0) ((ks (k + 1 + j)).s 0).length ((zs (k + 1 + j)).fc 0), .slice ((zs (k + 1 + j)).fA 1) ((ks (k + 1 + j)).s 1).length ((zs (k + 1 + j)).fc 1), .slice ((zs (k + 1 + j)).fA 2) ((ks (k + 1 + j)).s 2).length ((zs (k + 1 + j)).fc 2), .slice ((zs (k + 1 + j)).fA 3) (ks (k + 1 + j)).ad.length ((zs (k + 1 + j)).fc 3)] 30)
            have KC := checked_calls (zs (k + 1 + j)) (zs k) (ks (k + 1 + j)) (ks k) _ ((H.out.later hbA).each _ hm) ((H.out.later hbA).each _ hlt) (by rw [hcm]; exact HO.out _ (List.getElem_mem hml)) (by rw [HCK.out]; exact HO.out _ hckm)
            rw [show (checkedL (ks (k + 1 + j)) (ks k)).foldl worstR 0 = rowF ck l[k + 1 + j] from by rw [hcm, HCK.out]; rfl] at KC
            have HD2 := Lib.hid hd2
            have HKC := Lib.hid KC
            have HAL := Lib.hid (And.intro hbA (And.intro hkA hmb))
            obtain ⟨d0, d1, d2, d3, d4, d5, d6, d7, d8, d9, d10, d11, de5, de6, de7⟩ := cells12 HAL.out.2.1
            clear hd2 KC hq hbA hkA hmb hcm
            generalize rowF ck l[k + 1 + j] = y at *
            unfold GSlots.val cval len4 at HKC
            go_wp2_with (first
              | (go_at_call 69; (with_reducible refine HKC.out.mono ?_); rintro e w3 ⟨rfl, b3'⟩; have hb3 := HAL.out.1.trans (b3'.mono HAL.out.1.size); have hk3 := HAL.out.2.1.later b3')
              | (go_at_call 68; (with_reducible refine (worst_calls q y _ hq2 hfr).mono ?_); rintro e w4 ⟨rfl, rfl⟩)
              | fail)
            go_roundw
            case rel => exact ⟨j + 1, worstR q y, by go_num, by omega, rfl, worstR_le hq2 hfr, hb3, hk3, by rw [show k + 1 + (j + 1) = k + 1 + j + 1 by omega]; exact HD2.out⟩
            case measure => simp only [intOf]; omega
          · have hje : k + 1 + j = n := by omega
            have hq1 := hq.out
            rw [List.drop_eq_nil_of_le (by rw [HL.out]; omega), List.map_nil, List.nil_append] at hq1
            have HQ1 := Lib.hid hq1
            have hjx : j = n - (k + 1) := by omega
            subst hjx
            clear hq hq1 hkb hje
            go_wp2
            go_roundw
            case rel => exact ⟨k + 1, q, by go_num, by omega, rfl, hq2, hbv, HQ1.out⟩
            case measure => simp only [intOf]; omega
    · obtain rfl : k = n := by omega
      have hr1 := hr.out
      rw [List.drop_eq_nil_of_le (by rw [HL.out]; exact Nat.le_refl _)] at hr1
      have hr3 : r = T := hr1
      clear hr hr1 HT
      subst hr3
      go_wp2
      go_ret
      exact ⟨rfl, hbr⟩
end Go.Proofs.YtblabjfjhlablaaGreatDoor
/- The walks of zzFits1, chainOk and FnChain. -/
namespace Go.Proofs.YtblabjfjhlablaaGreatDoor
open Go.RowKit Go.Sort Nc
theorem eg57 : ∀ args w, (callFunc 57 args).run Tryz.prog w = .ok (.enter 57 args) w := enters_of Tryz.func57 (by kernel_rfl) rfl
set_option maxRecDepth 100000 in
theorem notCert_calls (z : GSlots) (c : GC) (w : World) (h : CertRd w z c) (hs : CertSz 2147483647 c) :
    Calls Tryz.prog 57 #[z.val c] w fun e w' => e = .returned (.bool (!certB c)) ∧ Below w.heap.size w w' := by
  have hC : Blk (w.alloc (.cells (z.cells c) 30)) w.heap.size 30 (z.cells c) := Blk.new _ _ _
  have hb0 : Below w.heap.size w (w.alloc (.cells (z.cells c) 30)) := (Below.refl _ _).alloc (Nat.le_refl _) _
  have KO := Lib.hid (fun (W : World) (hW : Below w.heap.size w W) => certOk_calls z c W (h.later hW) hs)
  clear h hs
  unfold GSlots.val cval len4 at *
  unfold GSlots.cells at *
  simp only at *
  generalize certB c = B at *
  have HC := Lib.hid hC
  clear hC
  obtain ⟨d0, d1, d2, d3, d4, d5, d6, d7, d8, d9, d10, d11, e5, e6, e7⟩ := cells12 HC.out
  go_enter Tryz.func57, Tryz.ntmps57
  go_wp2_with (first
    | (go_at_call 19; (with_reducible refine (KO.out _ hb0).mono ?_); rintro e w1 ⟨rfl, hb⟩)
    | fail)
  go_ret
  exact ⟨rfl, hb0.trans (hb.mono hb0.size)⟩
def chainB (ks : Nat → GC) (n : Nat) : Bool := decide (n ≤ 8) && !((List.range n).any fun k => !certB (ks k))
theorem chainB_ok {ks : Nat → GC} {n : Nat} (h : chainB ks n = true) : n ≤ 8 ∧ ∀ k, k < n → certB (ks k) = true := by
  simp only [chainB, Bool.and_eq_true, decide_eq_true_eq, Bool.not_eq_true', List.any_eq_false] at h
  refine ⟨h.1, fun k hk => ?_⟩
  have := h.2 k (List.mem_range.2 hk)
  simpa using this
theorem certsBad_calls (A : Option Addr) (n cap : Nat) (ks : Nat → GC) (zs : Nat → GSlots) (w : World) (h : ChainRd w A n ks zs) (hn : n ≤ 9000000000000000000) (hs : ∀ k, k < n → CertSz 2147483647 (ks k)) :
    Calls Tryz.prog 25 #[.slice A n cap, .func (.func 57) #[] #[]] w fun e w' => e = .returned (.bool ((List.range n).any fun k => !certB (ks k))) ∧ Below w.heap.size w w' :=
  certAny_calls 57 eg57 A n cap (fun k => (zs k).pA) (fun k => (zs k).eA) (fun k => (zs k).fA) (fun k => len4 (ks k).p (ks k).pn.length) (fun k => len4 (ks k).e (ks k).en.length) (fun k => len4 (ks k).s (ks k).ad.length) (fun k => (zs k).pc) (fun k => (zs k).ec) (fun k => (zs k).fc) (fun k => !certB (ks k)) w h.at_ hn
    (fun k hk W hW => notCert_calls (zs k) (ks k) W ((h.later hW).each k hk) (hs k hk))
theorem chainOk_calls (A : Option Addr) (n cap : Nat) (ks : Nat → GC) (zs : Nat → GSlots) (w : World) (h : ChainRd w A n ks zs) (hn : n ≤ 9000000000000000000) (hs : ∀ k, k < n → CertSz 2147483647 (ks k)) :
    Calls Tryz.prog 24 #[.slice A n cap] w fun e w' => e = .returned (.bool (chainB ks n)) ∧ Below w.heap.size w w' := by
  have K := Lib.hid (certsBad_calls A n cap ks zs w h hn hs)
  clear h hs
  unfold chainB
  generalize (List.range n).any (fun k => !certB (ks k)) = R at *
  by_cases h8 : n ≤ 8
  · rw [decide_eq_true h8, Bool.true_and]
    go_enter Tryz.func24, Tryz.ntmps24
    go_wp2_with (first
      | (go_at_call 25; (with_reducible refine K.out.mono ?_); rintro e w1 ⟨rfl, hb⟩)
      | fail)
    go_ret
    exact ⟨rfl, hb⟩
  · rw [decide_eq_false h8, Bool.false_and]
    go_enter Tryz.func24, Tryz.ntmps24
    go_wp2
    go_ret
    exact ⟨rfl, Below.refl _ _⟩
set_option maxRecDepth 100000 in
set_option maxHeartbeats 2000000 in
theorem fits1_calls (A : Option Addr) (n cap : Nat) (ks : Nat → GC) (zs : Nat → GSlots) (w : World) (h : ChainRd w A n ks zs) (hn : n ≤ 9000000000000000000) (hs : ∀ k, k < n → CertSz 9000000000000000000 (ks k)) :
    Calls Tryz.prog 23 #[.slice A n cap] w (Fits (n ≤ 2147483647 ∧ ∀ k, k < n → CertSz 2147483647 (ks k)) w) := by
  by_cases h0 : n ≤ 2147483647
  case neg =>
    clear h hs
    go_enter Tryz.func23, Tryz.ntmps23
    go_wp2
    go_ret
    exact .no (Below.refl _ _)
  have H := Lib.hid h
  have HS := Lib.hid hs
  obtain ⟨Q, hQ⟩ : ∃ Q : Prop, Q = (n ≤ 2147483647 ∧ ∀ k, k < n → CertSz 2147483647 (ks k)) := ⟨_, rfl⟩
  have HQ := Lib.hid (show (∀ k, k < n → CertSz 2147483647 (ks k)) → Q from fun h => hQ ▸ ⟨h0, h⟩)
  rw [← hQ]
  clear h hs hQ
  go_enter Tryz.func23, Tryz.ntmps23
  go_wp2
  go_loopw [10] (fun i wr => ∃ k : Nat, i = .int .i64 k ∧ k ≤ n ∧ Below w.heap.size w wr ∧ Hid (∀ j, j < k → CertSz 2147483647 (ks j))) (fun i _ => n - (intOf i).toNat)
  case atStart => exact ⟨0, rfl, Nat.zero_le _, Below.refl _ _, fun j hj => absurd hj (Nat.not_lt_zero _)⟩
  case round =>
    obtain ⟨k, rfl, hk, hbr, hr⟩ := hrel
    by_cases hlt : k < n
    · obtain ⟨g, off, rfl, _⟩ := H.out.at_ (by omega)
      obtain ⟨a0, a1, a2, a3, a4, a5, a6, a7, a8, a9, a10, a11⟩ := certs12 (H.out.later hbr) (o := off + k * 12) hlt rfl rfl
      have hbA := hbr.alloc hbr.size (.cells ((zs k).cells (ks k)) 30)
      have KC := fits2_calls (zs k) (ks k) _ ((H.out.later hbA).each k hlt) (HS.out k hlt)
      have hnx := Lib.hid (fun (hz : CertSz 2147483647 (ks k)) => (show ∀ j, j < k + 1 → CertSz 2147483647 (ks j) from fun j hj => by
        by_cases e : j = k
        · subst e; exact hz
        · exact hr.out j (by omega)))
      have HKC := Lib.hid KC
      have HBA := Lib.hid hbA
      clear KC hr hbA
      unfold GSlots.val cval len4 at HKC
      unfold GSlots.cells at HKC HBA
      go_wp2_with (first
        | (go_at_call 18; (with_reducible refine HKC.out.mono ?_); rintro e w1 ⟨q, rfl, hb1, hq⟩; have B1 := HBA.out.trans (hb1.mono HBA.out.size); have HF := Lib.hid (fun hh => hnx.out (hq hh)); clear hq; cases q)
        | fail)
      · go_ret
        exact .no B1
      · go_roundw
        case rel => exact ⟨k + 1, by go_num, by omega, B1, by first | exact HF.out trivial | exact HF.out rfl⟩
        case measure => simp only [intOf]; omega
    · obtain rfl : k = n := by omega
      have hq := HQ.out hr.out
      have HQ2 := Lib.hid hq
      clear hr HQ hq
      go_wp2
      go_ret
      exact .yes hbr HQ2.out
theorem certB_spec {c : GC} (h : certB c = true) : SpecC c := by
  obtain ⟨ok, _⟩ := certB_ok h
  have hb := certB_box h
  simp only [certB, Bool.and_eq_true] at h
  obtain ⟨_, ⟨⟨h0, h2⟩, _⟩, _⟩ := h
  simp only [Bool.not_eq_true', List.any_eq_false] at h0 h2
  exact ⟨fun s hs => by have := h0 s hs; simpa using this, fun s hs => by have := h2 s hs; simpa using this, hb, fun n hn => (ok.pn.2 n hn).msk, fun n hn => (ok.en.2 n hn).msk⟩
def listOf (ks : Nat → GC) (n : Nat) : List GC := (List.range n).map ks
theorem listOf_len (ks : Nat → GC) (n : Nat) : (listOf ks n).length = n := by simp [listOf]
theorem listOf_get (ks : Nat → GC) (n k : Nat) (h : k < (listOf ks n).length) : ks k = (listOf ks n)[k] := by simp [listOf]
theorem listOf_mem {ks : Nat → GC} {n : Nat} {c : GC} (h : c ∈ listOf ks n) : ∃ k, k < n ∧ c = ks k := by
  obtain ⟨k, hk, rfl⟩ := List.mem_map.1 h
  exact ⟨k, List.mem_range.1 hk, rfl⟩
theorem codeB_le (b : Bool) : ∃ m : Nat, codeB b = (m : Int) ∧ m ≤ 1 ∧ (b = true → m = 1) ∧ (b = false → m = 0) := by
  cases b
  · exact ⟨0, rfl, by omega, (fun h => by cases h), fun _ => rfl⟩
  · exact ⟨1, rfl, by omega, fun _ => rfl, (fun h => by cases h)⟩
set_option maxRecDepth 100000 in
set_option maxHeartbeats 2000000 in
theorem fnChain_calls (A : Option Addr) (n cap : Nat) (ks : Nat → GC) (zs : Nat → GSlots) (w : World) (hL : Laid w) (h : ChainRd w A n ks zs) (hn : n ≤ 9000000000000000000) (hcap : n ≤ cap) (hs : ∀ k, k < n → CertSz 9000000000000000000 (ks k)) :
    Calls Tryz.prog 9 #[.slice A n cap] w fun e w' => e = .returned (.bool true) ∧ Below w.heap.size w w' := by
  have KF := Lib.hid (fits1_calls A n cap ks zs w h hn hs)
  have KO := Lib.hid (fun (hz : ∀ k, k < n → CertSz 2147483647 (ks k)) (W : World) (hW : Below w.heap.size w W) => chainOk_calls A n cap ks zs W (h.later hW) hn hz)
  have H := Lib.hid h
  have HL := Lib.hid hL
  clear h hs hL
  by_cases h1 : 1 ≤ n
  case neg =>
    go_enter Tryz.func9, Tryz.ntmps9
    go_wp2_with (first
      | (go_at_call 23; (with_reducible refine KF.out.mono ?_); rintro e w1 ⟨q1, rfl, b1, f1⟩; clear f1; cases q1)
      | fail)
    all_goals go_ret
    all_goals exact ⟨rfl, b1⟩
  cases hB : chainB ks n with
  | false =>
    rw [hB] at KO
    clear hB
    go_enter Tryz.func9, Tryz.ntmps9
    go_wp2_with (first
      | (go_at_call 23; (with_reducible refine KF.out.mono ?_); rintro e w1 ⟨q1, rfl, b1, f1⟩; have HF1 := Lib.hid f1; clear f1; cases q1)
      | (go_at_call 24; (with_reducible refine (KO.out (HF1.out (by first | rfl | trivial)).2 _ b1).mono ?_); rintro e w2 ⟨rfl, b2⟩; have B2 := b1.trans (b2.mono b1.size))
      | fail)
    all_goals go_ret
    all_goals first
      | exact ⟨rfl, B2⟩
      | exact ⟨rfl, b1⟩
  | true =>
    rw [hB] at KO
    obtain ⟨h8, hc⟩ := chainB_ok hB
    have hspec := chain_law XIP (fun _ _ => rfl) (listOf ks n) (fun c hc' => by obtain ⟨k, hk, rfl⟩ := listOf_mem hc'; exact certB_spec (hc k hk))
    have href := refL_refused XIP (listOf ks n) ks (fun i hi => listOf_get ks n i hi)
    rw [listOf_len] at href
    have hr2 := worstL_le (chainL_le (listOf ks n))
    have KI := Lib.hid (fun (W : World) (hW : Below w.heap.size w W) => xChain_calls ks zs n cap A W (HL.out.keep hW) (by omega) (by omega) (fun i hi => (certB_ok (hc i hi)).1) (H.out.later hW) (refL XIP (listOf ks n)) href)
    have KS := Lib.hid (fun (W : World) (hW : Below w.heap.size w W) => specChain_calls A n cap ks zs (listOf ks n) W (H.out.later hW) (listOf_len ks n) (listOf_get ks n) (fun c hc' => by obtain ⟨k, hk, rfl⟩ := listOf_mem hc'; exact hc k hk) h8 hcap)
    have e1 : (chainL (listOf ks n)).foldl worstR 0 = worstL (chainL (listOf ks n)) := rfl
    rw [e1] at KS
    obtain ⟨m, hm, hm1, hmt, hmf⟩ := codeB_le (refL XIP (listOf ks n))
    rw [hm] at KI
    generalize worstL (chainL (listOf ks n)) = r at *
    generalize refL XIP (listOf ks n) = R at *
    have hans : (if r = 1 then decide (m = 1) else if r = 0 then decide (m = 0) else true) = true := by
      by_cases q1 : r = 1
      · rw [if_pos q1, hmt (hspec.1 q1)]; rfl
      · rw [if_neg q1]
        by_cases q0 : r = 0
        · rw [if_pos q0, hmf (hspec.2 q0)]; rfl
        · rw [if_neg q0]
    have KA := fun W => answered_calls m r W hm1 hr2
    rw [hans] at KA
    have HKA := Lib.hid KA
    clear hB hspec href hc hans KA hm hmt hmf e1
    go_enter Tryz.func9, Tryz.ntmps9
    go_wp2_with (first
      | (go_at_call 23; (with_reducible refine KF.out.mono ?_); rintro e w1 ⟨q1, rfl, b1, f1⟩; have HF1 := Lib.hid f1; clear f1; cases q1)
      | (go_at_call 24; (with_reducible refine (KO.out (HF1.out (by first | rfl | trivial)).2 _ b1).mono ?_); rintro e w2 ⟨rfl, b2⟩; have B2 := b1.trans (b2.mono b1.size))
      | (go_at_call 21; (with_reducible refine (KI.out _ B2).mono ?_); rintro e w3 ⟨rfl, b3⟩; have B3 := B2.trans (b3.mono B2.size))
      | (go_at_call 33; (with_reducible refine (KS.out _ B3).mono ?_); rintro e w4 ⟨rfl, b4⟩; have B4 := B3.trans (b4.mono B3.size))
      | (go_at_call 32; (with_reducible refine (HKA.out _).mono ?_); rintro e w5 ⟨rfl, rfl⟩)
      | fail)
    all_goals go_ret
    all_goals first
      | exact ⟨rfl, B4⟩
      | exact ⟨rfl, b1⟩
end Go.Proofs.YtblabjfjhlablaaGreatDoor
