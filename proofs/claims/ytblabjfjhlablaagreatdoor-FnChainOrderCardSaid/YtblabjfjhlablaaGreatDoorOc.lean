/- The walk of FnChainOrder: the loop. -/
import Derived.Test.YtblabjfjhlablaaGreatDoorOb
namespace Go.Proofs.YtblabjfjhlablaaGreatDoor
open Go.RowKit Go.Sort Nc
theorem one12 (x : World) (cs : List Value) (h : cs.length = 12) : Reads (x.alloc (.cells cs.toArray 30)) (x.heap.size + 1) 12 (some ⟨x.heap.size, 0, none⟩) 1 cs := by
  refine ⟨by omega, fun _ => ⟨_, rfl, Nat.lt_succ_self _, fun j u hu => ?_⟩⟩
  rw [add_none, Nat.zero_add]
  exact (Blk.new x 30 cs.toArray).at_ j (by simpa using hu)
/-- What stands behind a round of the loop. -/
theorem order_next {w wr x1 x2 x3 x4 x5 w6 : World} {tw : Bool} {ks : Nat → GC} {zs zt : Nat → GSlots} {k : Nat} {qP qE : Nat → Option Addr} {cP cE : Nat → Nat} {A3 A4 A5 : Option Addr} {c3 c4 c5 : Nat} {o v6 : Value} {KC NC : Obj}
    (hbr : Below w.heap.size w wr) (hown : wr.ownsRow w.heap.size 30 12 o k (flatC zt (fun j => orderC tw (ks j)) k)) (hct : ∀ j, j < k → CertOwn w wr (zt j) (orderC tw (ks j)))
    (e1 : Below (wr.alloc KC).drew.heap.size (wr.alloc KC).drew x1) (e2 : Below x1.heap.size x1 x2) (e3 : Below x2.heap.size x2 x3) (e4 : Below x3.heap.size x3 x4) (e5 : Below x4.heap.size x4 x5)
    (o1 : NamesOwn w x1 qP cP (fun j => backL ((ks k).p j) tw) (ks k).pn.reverse) (o2 : NamesOwn w x2 qE cE (fun j => backL ((ks k).e j) tw) (ks k).en.reverse)
    (s3 : SRow x3 9 (.slice A3 (backL ((ks k).s 0) tw).length c3) ((backL ((ks k).s 0) tw).map .string)) (s4 : SRow x4 9 (.slice A4 (backL ((ks k).s 1) tw).length c4) ((backL ((ks k).s 1) tw).map .string)) (s5 : SRow x5 9 (.slice A5 (backL ((ks k).s 2) tw).length c5) ((backL ((ks k).s 2) tw).map .string))
    (ha : AddrsRd w ((zs k).fA 3) (ks k).ad)
    (o6 : w6.ownsRow w.heap.size 30 12 v6 (k + 1) (flatC zt (fun j => orderC tw (ks j)) k ++ [.slice (qP 0) (backL ((ks k).p 0) tw).length (cP 0), .slice (qP 1) (backL ((ks k).p 1) tw).length (cP 1), .slice (qP 2) (backL ((ks k).p 2) tw).length (cP 2), .slice (qP 3) (ks k).pn.length (cP 3), .slice (qE 0) (backL ((ks k).e 0) tw).length (cE 0), .slice (qE 1) (backL ((ks k).e 1) tw).length (cE 1), .slice (qE 2) (backL ((ks k).e 2) tw).length (cE 2), .slice (qE 3) (ks k).en.length (cE 3), .slice A3 (backL ((ks k).s 0) tw).length c3, .slice A4 (backL ((ks k).s 1) tw).length c4, .slice A5 (backL ((ks k).s 2) tw).length c5, .slice ((zs k).fA 3) (ks k).ad.length ((zs k).fc 3)]))
    (g6 : (x5.alloc NC).grownBy w6 o.ownBlock) :
    ∃ zt' : Nat → GSlots, Below w.heap.size w w6 ∧ w6.ownsRow w.heap.size 30 12 v6 (k + 1) (flatC zt' (fun j => orderC tw (ks j)) (k + 1)) ∧ Hid (∀ j, j < k + 1 → CertOwn w w6 (zt' j) (orderC tw (ks j))) := by
  have b5 : Below wr.heap.size wr (x5.alloc NC) := by
    have z0 : Below wr.heap.size wr (wr.alloc KC).drew := ((Below.refl _ _).alloc (Nat.le_refl _) KC).drew
    have z1 := z0.trans (e1.mono z0.size)
    have z2 := z1.trans (e2.mono z1.size)
    have z3 := z2.trans (e3.mono z2.size)
    have z4 := z3.trans (e4.mono z3.size)
    have z5 := z4.trans (e5.mono z4.size)
    exact z5.alloc z5.size NC
  have own5 := own_later hown b5
  have K6 : Keeps 30 (x5.alloc NC) w6 := Keeps.of_grown own5 g6
  have a5 : Below x5.heap.size x5 (x5.alloc NC) := (Below.refl _ _).alloc (Nat.le_refl _) NC
  have B5 := hbr.trans (b5.mono hbr.size)
  have B6 : Below w.heap.size w w6 := B5.grown g6 B5.size (fun q hq => (own5.lt q hq).1)
  refine ⟨fun j => if j = k then { pA := qP, eA := qE, fA := pick4 A3 A4 A5 ((zs k).fA 3), pc := cP, ec := cE, fc := pick4 c3 c4 c5 ((zs k).fc 3) } else zt j, B6, ?_, fun j hj => ?_⟩
  · rw [flatC_succ, flatC_same _ zt (fun j => orderC tw (ks j)) k (fun j hj => if_neg (by omega)), if_pos rfl]
    have q1 : (ks k).pn.length = (ks k).pn.reverse.length := by simp
    have q2 : (ks k).en.length = (ks k).en.reverse.length := by simp
    rw [q1, q2] at o6
    exact o6
  · by_cases e : j = k
    · subst e
      dsimp only
      rw [if_pos rfl]
      have l2 := e3.size
      have l3 := e4.size
      refine ⟨((((((o1.later e2).later e3).later e4).later e5).later a5).keeps K6 (by decide) (by decide)), (((((o2.later e3).later e4).later e5).later a5).keeps K6 (by decide) (by decide)), fun i hi => ?_, ha⟩
      match i, hi with
      | 0, _ => exact K6.srow (((s3.later e4).later e5).later a5) (by decide)
      | 1, _ => exact K6.srow ((s4.later e5).later a5) (by decide)
      | 2, _ => exact K6.srow (s5.later a5) (by decide)
    · dsimp only
      rw [if_neg e]
      exact ((hct j (by omega)).later b5).keeps K6
/-- What is told of the two chains is one and the same. -/
theorem order_same (tw : Bool) (ks : Nat → GC) (n : Nat) : refL XIP (listOf (fun j => orderC tw (ks j)) n) = refL XIP (listOf ks n) := by
  have : listOf (fun j => orderC tw (ks j)) n = (listOf ks n).map (orderC tw) := by simp [listOf]
  rw [this]
  exact refL_same XIP (fun _ _ => rfl) (orderC tw) _ (fun c _ => orderC_same tw c)
theorem order_ref (tw : Bool) (ks : Nat → GC) (n : Nat) : (refL XIP (listOf ks n) = true ↔ gRefused XIP ks n) ∧ (refL XIP (listOf ks n) = true ↔ gRefused XIP (fun j => orderC tw (ks j)) n) := by
  have h : ∀ ks : Nat → GC, refL XIP (listOf ks n) = true ↔ gRefused XIP ks n := fun ks => by
    have := refL_refused XIP (listOf ks n) ks (fun i hi => listOf_get ks n i hi)
    rwa [listOf_len] at this
  exact ⟨h ks, by rw [← order_same tw]; exact h _⟩
set_option maxRecDepth 100000 in
set_option maxHeartbeats 1000000 in
theorem fnChainOrder_calls (A : Option Addr) (n cap : Nat) (tw : Bool) (ks : Nat → GC) (zs : Nat → GSlots) (w : World) (hL : Laid w) (h : ChainRd w A n ks zs) (hn : n ≤ 9000000000000000000) (hs : ∀ k, k < n → CertSz 9000000000000000000 (ks k)) :
    Calls Tryz.prog 7 #[.slice A n cap, .bool tw] w fun e w' => e = .returned (.bool true) ∧ Below w.heap.size w w' := by
  obtain ⟨i0, hi0, hz0, hz1, hz2⟩ := info_parts cert_info
  have KF := Lib.hid (fits1_calls A n cap ks zs w h hn hs)
  have KO := Lib.hid (fun (hz : ∀ k, k < n → CertSz 2147483647 (ks k)) (W : World) (hW : Below w.heap.size w W) => chainOk_calls A n cap ks zs W (h.later hW) hn hz)
  have KH := Lib.hid (fun (W : World) (hW : Below w.heap.size w W) => notHalves_calls A n cap ks zs W (h.later hW) hn)
  have H := Lib.hid h
  have HL := Lib.hid hL
  clear h hs hL
  generalize (List.range n).any (fun k => !halfB (ks k)) = HB at *
  by_cases h1 : 1 ≤ n
  case neg =>
    go_enter Tryz.func7, Tryz.ntmps7
    go_wp2_with (first
      | (go_at_call 23; (with_reducible refine KF.out.mono ?_); rintro e w1 ⟨q1, rfl, b1, f1⟩; clear f1; cases q1)
      | fail)
    all_goals go_ret
    all_goals exact ⟨rfl, b1⟩
  cases hB : chainB ks n with
  | false =>
    rw [hB] at KO
    clear hB
    go_enter Tryz.func7, Tryz.ntmps7
    go_wp2_with (first
      | (go_at_call 23; (with_reducible refine KF.out.mono ?_); rintro e w1 ⟨q1, rfl, b1, f1⟩; have HF1 := Lib.hid f1; clear f1; cases q1)
      | (go_at_call 24; (with_reducible refine (KO.out (HF1.out (by first | rfl | trivial)).2 _ b1).mono ?_); rintro e w2 ⟨rfl, b2⟩; have B2 := b1.trans (b2.mono b1.size))
      | fail)
    all_goals go_ret
    all_goals first
      | exact ⟨rfl, B2⟩
      | exact ⟨rfl, b1⟩
  | true =>
    rw [hB] at KO
    obtain ⟨h8, hc⟩ := chainB_ok hB
    have HC := Lib.hid hc
    clear hB hc
    cases HB with
    | true =>
      go_enter Tryz.func7, Tryz.ntmps7
      go_wp2_with (first
        | (go_at_call 23; (with_reducible refine KF.out.mono ?_); rintro e w1 ⟨q1, rfl, b1, f1⟩; have HF1 := Lib.hid f1; clear f1; cases q1)
        | (go_at_call 24; (with_reducible refine (KO.out (HF1.out (by first | rfl | trivial)).2 _ b1).mono ?_); rintro e w2 ⟨rfl, b2⟩; have B2 := b1.trans (b2.mono b1.size))
        | (go_at_call 25; (with_reducible refine (KH.out _ B2).mono ?_); rintro e w3 ⟨rfl, b3⟩; have B3 := B2.trans (b3.mono B2.size))
        | fail)
      all_goals go_ret
      all_goals first
        | exact ⟨rfl, B3⟩
        | exact ⟨rfl, b1⟩
    | false =>
      go_enter Tryz.func7, Tryz.ntmps7
      go_wp2_with (first
        | (go_at_call 23; (with_reducible refine KF.out.mono ?_); rintro e w1 ⟨q1, rfl, b1, f1⟩; have HF1 := Lib.hid f1; clear f1; cases q1)
        | fail)
      · go_ret
        exact ⟨rfl, b1⟩
      go_wp2_with (first
        | (go_at_call 24; (with_reducible refine (KO.out (HF1.out (by first | rfl | trivial)).2 _ b1).mono ?_); rintro e w2 ⟨rfl, b2⟩; have B2 := b1.trans (b2.mono b1.size))
        | (go_at_call 25; (with_reducible refine (KH.out _ B2).mono ?_); rintro e w3 ⟨rfl, b3⟩; have B3 := B2.trans (b3.mono B2.size); have o3 := empty_own w3 30)
        | fail)
      have o3 : (w3.alloc (.cells #[] 30)).ownsRow w.heap.size 30 12 (.slice (some ⟨w3.heap.size, 0, none⟩) 0 0) 0 (flatC zs (fun j => orderC tw (ks j)) 0) := ⟨by simp [flatC], .inr ⟨w3.heap.size, 0, #[], rfl, B3.size, heap_alloc_new w3 _, by simp, by simp [maxLen], by simp, by simp [flatC]⟩⟩
      have HS0 := Lib.hid (And.intro (B3.alloc B3.size (.cells #[] 30)) o3)
      go_loopw [5, 27] (fun o i wr => ∃ (k : Nat) (zt : Nat → GSlots), i = .int .i64 k ∧ k ≤ n ∧ Below w.heap.size w wr ∧ wr.ownsRow w.heap.size 30 12 o k (flatC zt (fun j => orderC tw (ks j)) k) ∧ Hid (∀ j, j < k → CertOwn w wr (zt j) (orderC tw (ks j)))) (fun _ i _ => n - (intOf i).toNat)
      case atStart => exact ⟨0, zs, rfl, Nat.zero_le _, HS0.out.1, HS0.out.2, fun j hj => absurd hj (Nat.not_lt_zero _)⟩
      case round =>
        obtain ⟨k, zt, rfl, hk, hbr, hown, hct⟩ := hrel
        clear HS0
        by_cases hlt : k < n
        · obtain ⟨g, off, rfl, _⟩ := H.out.at_ (by omega)
          obtain ⟨a0, a1, a2, a3, a4, a5, a6, a7, a8, a9, a10, a11⟩ := certs12 (H.out.later hbr) (o := off + k * 12) hlt rfl rfl
          have hbA := hbr.alloc hbr.size (.cells #[.slice ((zs k).pA 0) ((ks k).p 0).length ((zs k).pc 0), .slice ((zs k).pA 1) ((ks k).p 1).length ((zs k).pc 1), .slice ((zs k).pA 2) ((ks k).p 2).length ((zs k).pc 2), .slice ((zs k).pA 3) (ks k).pn.length ((zs k).pc 3), .slice ((zs k).eA 0) ((ks k).e 0).length ((zs k).ec 0), .slice ((zs k).eA 1) ((ks k).e 1).length ((zs k).ec 1), .slice ((zs k).eA 2) ((ks k).e 2).length ((zs k).ec 2), .slice ((zs k).eA 3) (ks k).en.length ((zs k).ec 3), .slice ((zs k).fA 0) ((ks k).s 0).length ((zs k).fc 0), .slice ((zs k).fA 1) ((ks k).s 1).length ((zs k).fc 1), .slice ((zs k).fA 2) ((ks k).s 2).length ((zs k).fc 2), .slice ((zs k).fA 3) (ks k).ad.length ((zs k).fc 3)] 30)
          have hblk := Blk.new wr 30 #[.slice ((zs k).pA 0) ((ks k).p 0).length ((zs k).pc 0), .slice ((zs k).pA 1) ((ks k).p 1).length ((zs k).pc 1), .slice ((zs k).pA 2) ((ks k).p 2).length ((zs k).pc 2), .slice ((zs k).pA 3) (ks k).pn.length ((zs k).pc 3), .slice ((zs k).eA 0) ((ks k).e 0).length ((zs k).ec 0), .slice ((zs k).eA 1) ((ks k).e 1).length ((zs k).ec 1), .slice ((zs k).eA 2) ((ks k).e 2).length ((zs k).ec 2), .slice ((zs k).eA 3) (ks k).en.length ((zs k).ec 3), .slice ((zs k).fA 0) ((ks k).s 0).length ((zs k).fc 0), .slice ((zs k).fA 1) ((ks k).s 1).length ((zs k).fc 1), .slice ((zs k).fA 2) ((ks k).s 2).length ((zs k).fc 2), .slice ((zs k).fA 3) (ks k).ad.length ((zs k).fc 3)]
          have HA := Lib.hid (And.intro hbA hblk)
          obtain ⟨_, lp, le, ls⟩ := certB_ok (HC.out k hlt)
          have KP := Lib.hid (fun (W : World) (hW : Below w.heap.size w W) => turned_calls (zs k).pA (zs k).pc (ks k).p (ks k).pn tw w W (H.out.each k hlt).p hW (fun j hj => by match j, hj with | 0, _ => exact Nat.le_trans (lp 0) (by omega) | 1, _ => exact Nat.le_trans (lp 1) (by omega) | 2, _ => exact Nat.le_trans (lp 2) (by omega)) (Nat.le_trans (lp 3) (by omega)))
          have KE := Lib.hid (fun (W : World) (hW : Below w.heap.size w W) => turned_calls (zs k).eA (zs k).ec (ks k).e (ks k).en tw w W (H.out.each k hlt).e hW (fun j hj => by match j, hj with | 0, _ => exact Nat.le_trans (le 0) (by omega) | 1, _ => exact Nat.le_trans (le 1) (by omega) | 2, _ => exact Nat.le_trans (le 2) (by omega)) (Nat.le_trans (le 3) (by omega)))
          have K0 := Lib.hid (fun (W : World) (hW : Below w.heap.size w W) => back_calls ((zs k).fA 0) ((ks k).s 0) ((zs k).fc 0) tw W (((H.out.later hW).each k hlt).s 0 (by omega)) (Nat.le_trans (ls 0) (by omega)))
          have K1 := Lib.hid (fun (W : World) (hW : Below w.heap.size w W) => back_calls ((zs k).fA 1) ((ks k).s 1) ((zs k).fc 1) tw W (((H.out.later hW).each k hlt).s 1 (by omega)) (Nat.le_trans (ls 1) (by omega)))
          have K2 := Lib.hid (fun (W : World) (hW : Below w.heap.size w W) => back_calls ((zs k).fA 2) ((ks k).s 2) ((zs k).fc 2) tw W (((H.out.later hW).each k hlt).s 2 (by omega)) (Nat.le_trans (ls 2) (by omega)))
          unfold nval len4 at KP KE
          clear hbA hblk lp le ls
          go_wp2
          go_region_held3 (fun W => W.cell? ⟨wr.heap.size, 0, none⟩ = some (.slice ((zs k).pA 0) ((ks k).p 0).length ((zs k).pc 0)) ∧ W.cell? ⟨wr.heap.size, 1, none⟩ = some (.slice ((zs k).pA 1) ((ks k).p 1).length ((zs k).pc 1)) ∧ W.cell? ⟨wr.heap.size, 2, none⟩ = some (.slice ((zs k).pA 2) ((ks k).p 2).length ((zs k).pc 2)) ∧ W.cell? ⟨wr.heap.size, 3, none⟩ = some (.slice ((zs k).pA 3) (ks k).pn.length ((zs k).pc 3)) ∧ W.cell? ⟨wr.heap.size, 4, none⟩ = some (.slice ((zs k).eA 0) ((ks k).e 0).length ((zs k).ec 0)) ∧ W.cell? ⟨wr.heap.size, 5, none⟩ = some (.slice ((zs k).eA 1) ((ks k).e 1).length ((zs k).ec 1)) ∧ W.cell? ⟨wr.heap.size, 6, none⟩ = some (.slice ((zs k).eA 2) ((ks k).e 2).length ((zs k).ec 2)) ∧ W.cell? ⟨wr.heap.size, 7, none⟩ = some (.slice ((zs k).eA 3) (ks k).en.length ((zs k).ec 3)) ∧ W.cell? ⟨wr.heap.size, 8, none⟩ = some (.slice ((zs k).fA 0) ((ks k).s 0).length ((zs k).fc 0)) ∧ W.cell? ⟨wr.heap.size, 9, none⟩ = some (.slice ((zs k).fA 1) ((ks k).s 1).length ((zs k).fc 1)) ∧ W.cell? ⟨wr.heap.size, 10, none⟩ = some (.slice ((zs k).fA 2) ((ks k).s 2).length ((zs k).fc 2)) ∧ W.cell? ⟨wr.heap.size, 11, none⟩ = some (.slice ((zs k).fA 3) (ks k).ad.length ((zs k).fc 3)))
            (first
              | (with_reducible exact ⟨HA.out.2.drew.at_ 0 rfl, HA.out.2.drew.at_ 1 rfl, HA.out.2.drew.at_ 2 rfl, HA.out.2.drew.at_ 3 rfl, HA.out.2.drew.at_ 4 rfl, HA.out.2.drew.at_ 5 rfl, HA.out.2.drew.at_ 6 rfl, HA.out.2.drew.at_ 7 rfl, HA.out.2.drew.at_ 8 rfl, HA.out.2.drew.at_ 9 rfl, HA.out.2.drew.at_ 10 rfl, HA.out.2.drew.at_ 11 rfl⟩)
              | (with_reducible exact ⟨J1.out.2.at_ 0 rfl, J1.out.2.at_ 1 rfl, J1.out.2.at_ 2 rfl, J1.out.2.at_ 3 rfl, J1.out.2.at_ 4 rfl, J1.out.2.at_ 5 rfl, J1.out.2.at_ 6 rfl, J1.out.2.at_ 7 rfl, J1.out.2.at_ 8 rfl, J1.out.2.at_ 9 rfl, J1.out.2.at_ 10 rfl, J1.out.2.at_ 11 rfl⟩)
              | (with_reducible exact ⟨J2.out.2.at_ 0 rfl, J2.out.2.at_ 1 rfl, J2.out.2.at_ 2 rfl, J2.out.2.at_ 3 rfl, J2.out.2.at_ 4 rfl, J2.out.2.at_ 5 rfl, J2.out.2.at_ 6 rfl, J2.out.2.at_ 7 rfl, J2.out.2.at_ 8 rfl, J2.out.2.at_ 9 rfl, J2.out.2.at_ 10 rfl, J2.out.2.at_ 11 rfl⟩)
              | (with_reducible exact ⟨J3.out.2.at_ 0 rfl, J3.out.2.at_ 1 rfl, J3.out.2.at_ 2 rfl, J3.out.2.at_ 3 rfl, J3.out.2.at_ 4 rfl, J3.out.2.at_ 5 rfl, J3.out.2.at_ 6 rfl, J3.out.2.at_ 7 rfl, J3.out.2.at_ 8 rfl, J3.out.2.at_ 9 rfl, J3.out.2.at_ 10 rfl, J3.out.2.at_ 11 rfl⟩)
              | (with_reducible exact ⟨J4.out.2.at_ 0 rfl, J4.out.2.at_ 1 rfl, J4.out.2.at_ 2 rfl, J4.out.2.at_ 3 rfl, J4.out.2.at_ 4 rfl, J4.out.2.at_ 5 rfl, J4.out.2.at_ 6 rfl, J4.out.2.at_ 7 rfl, J4.out.2.at_ 8 rfl, J4.out.2.at_ 9 rfl, J4.out.2.at_ 10 rfl, J4.out.2.at_ 11 rfl⟩)
              | (with_reducible exact ⟨J5.out.2.at_ 0 rfl, J5.out.2.at_ 1 rfl, J5.out.2.at_ 2 rfl, J5.out.2.at_ 3 rfl, J5.out.2.at_ 4 rfl, J5.out.2.at_ 5 rfl, J5.out.2.at_ 6 rfl, J5.out.2.at_ 7 rfl, J5.out.2.at_ 8 rfl, J5.out.2.at_ 9 rfl, J5.out.2.at_ 10 rfl, J5.out.2.at_ 11 rfl⟩)
              | (with_reducible exact ⟨(J5.out.2.alloc _).at_ 0 rfl, (J5.out.2.alloc _).at_ 1 rfl, (J5.out.2.alloc _).at_ 2 rfl, (J5.out.2.alloc _).at_ 3 rfl, (J5.out.2.alloc _).at_ 4 rfl, (J5.out.2.alloc _).at_ 5 rfl, (J5.out.2.alloc _).at_ 6 rfl, (J5.out.2.alloc _).at_ 7 rfl, (J5.out.2.alloc _).at_ 8 rfl, (J5.out.2.alloc _).at_ 9 rfl, (J5.out.2.alloc _).at_ 10 rfl, (J5.out.2.alloc _).at_ 11 rfl⟩)
              | (with_reducible exact ⟨J6.out.at_ 0 rfl, J6.out.at_ 1 rfl, J6.out.at_ 2 rfl, J6.out.at_ 3 rfl, J6.out.at_ 4 rfl, J6.out.at_ 5 rfl, J6.out.at_ 6 rfl, J6.out.at_ 7 rfl, J6.out.at_ 8 rfl, J6.out.at_ 9 rfl, J6.out.at_ 10 rfl, J6.out.at_ 11 rfl⟩))
            (first
              | (go_at_call 28; (with_reducible refine (KP.out _ HA.out.1.drew).mono ?_); rintro e x1 ⟨qP, cP, rfl, o1, e1⟩; have J1 := Lib.hid (And.intro (HA.out.1.drew.trans (e1.mono HA.out.1.drew.size)) (HA.out.2.drew.later e1)); have HO1 := Lib.hid o1; clear o1)
              | (go_at_call 28; (with_reducible refine (KE.out _ J1.out.1).mono ?_); rintro e x2 ⟨qE, cE, rfl, o2, e2⟩; have J2 := Lib.hid (And.intro (J1.out.1.trans (e2.mono J1.out.1.size)) (J1.out.2.later e2)); have HO2 := Lib.hid o2; clear o2)
              | (go_at_call 29; (with_reducible refine (K0.out _ J2.out.1).mono ?_); rintro e x3 ⟨v3, rfl, s3, e3⟩; have J3 := Lib.hid (And.intro (J2.out.1.trans (e3.mono J2.out.1.size)) (J2.out.2.later e3)); obtain ⟨A3, c3, rfl, _⟩ := srow_reads s3; have HS3 := Lib.hid s3; clear s3)
              | (go_at_call 29; (with_reducible refine (K1.out _ J3.out.1).mono ?_); rintro e x4 ⟨v4, rfl, s4, e4⟩; have J4 := Lib.hid (And.intro (J3.out.1.trans (e4.mono J3.out.1.size)) (J3.out.2.later e4)); obtain ⟨A4, c4, rfl, _⟩ := srow_reads s4; have HS4 := Lib.hid s4; clear s4)
              | (go_at_call 29; (with_reducible refine (K2.out _ J4.out.1).mono ?_); rintro e x5 ⟨v5, rfl, s5, e5⟩; have J5 := Lib.hid (And.intro (J4.out.1.trans (e5.mono J4.out.1.size)) (J4.out.2.later e5)); obtain ⟨A5, c5, rfl, _⟩ := srow_reads s5; have HS5 := Lib.hid s5; clear s5; have OW := Lib.hid (own_later (own_later (own_later (own_later (own_later (w := (wr.alloc _).drew) (hown.alloc _) e1) e2) e3) e4) e5))
              | ((with_reducible refine step_append_any _ rfl _ (.tmp 55) _ rfl w.heap.size 30 i0 _ 12 288 Tryz.underlying37 hi0 hz0 hz1 hz2 rfl (by omega) u5 k _ rfl (OW.out.alloc _) (x5.heap.size + 1) (some ⟨x5.heap.size, 0, none⟩) 1 1 _ rfl (one12 x5 _ (by simp)) (by simp [Value.oneCell']) (by simp only [maxLen]; omega) (by omega) (J5.out.1.alloc J5.out.1.size _).size ?_); intro v6 w6 o6 g6 a6; have J6 := Lib.hid ((J5.out.2.alloc _).grown g6 (fun hq => by have := (hown.lt _ hq.symm).2; omega))))
          all_goals have NX := order_next hbr hown hct.out e1 e2 e3 e4 e5 HO1.out HO2.out HS3.out HS4.out HS5.out (H.out.each k hlt).a o6 g6
          all_goals have HNX := Lib.hid NX
          all_goals clear NX HO1 HO2 HS3 HS4 HS5 J1 J2 J3 J4 J5 J6 HA KP KE K0 K1 K2 hown hct o6 g6 a6 e1 e2 e3 e4 e5
          all_goals obtain ⟨zt2, b6, p6, r6⟩ := HNX.out
          all_goals go_wp2
          all_goals go_roundw
          all_goals first
            | (exact ⟨k + 1, zt2, by go_num, by omega, b6, p6, r6⟩)
            | (simp only [intOf]; omega)
        · obtain rfl : k = n := by omega
          obtain ⟨A2, c2, rfl, hch⟩ := chain_of_own hown hct.out hbr
          obtain ⟨r1, r2⟩ := order_ref tw ks k
          have KR := Lib.hid (refusedChain_calls wr (HL.out.keep hbr))
          have KC := Lib.hid (fun (W : World) (hW : Below w.heap.size w W) => xChain_calls ks zs k cap A W (HL.out.keep hW) (by omega) (by omega) (fun i hi => (certB_ok (HC.out i hi)).1) (H.out.later hW) _ r1)
          have KD := Lib.hid (fun (W : World) (hW : Below wr.heap.size wr W) => xChain_calls (fun j => orderC tw (ks j)) zt k c2 A2 W (HL.out.keep (hbr.trans (hW.mono hbr.size))) (by omega) (by omega) (fun i hi => by obtain ⟨q0, q1, q2, q3⟩ := certB_ok (HC.out i hi); exact orderC_ok tw q0 q1 q2 q3) (hch.later hW) _ r2)
          clear r1 r2 hch hown hct
          generalize codeB (refL XIP (listOf ks k)) = R at *
          go_wp2_with (first
            | (go_at_call 20; (with_reducible refine KR.out.mono ?_); rintro e y1 ⟨rfl, b1⟩)
            | (go_at_call 21; (with_reducible refine (KC.out _ (hbr.trans (b1.mono hbr.size))).mono ?_); rintro e y2 ⟨rfl, b2⟩; have B2 := b1.trans (b2.mono b1.size))
            | (go_at_call 21; (with_reducible refine (KD.out _ B2).mono ?_); rintro e y3 ⟨rfl, b3⟩; have B3 := B2.trans (b3.mono B2.size))
            | fail)
          all_goals go_ret
          all_goals exact ⟨by simp, hbr.trans (B3.mono hbr.size)⟩
end Go.Proofs.YtblabjfjhlablaaGreatDoor
