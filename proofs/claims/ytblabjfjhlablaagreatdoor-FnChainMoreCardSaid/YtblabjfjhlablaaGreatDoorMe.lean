/- The walk of FnChainMore, joined. -/
import Derived.Test.YtblabjfjhlablaaGreatDoorMd
namespace Go.Proofs.YtblabjfjhlablaaGreatDoor
open Go.RowKit Go.Sort Nc
set_option maxRecDepth 100000 in
set_option maxHeartbeats 2000000 in
theorem fnChainMore_calls (A : Option Addr) (n cap : Nat) (ks : Nat → GC) (zs : Nat → GSlots) (z : GSlots) (m : GC) (a : Nat) (w : World) (hL : Laid w) (h : ChainRd w A n ks zs) (hz : CertRd w z m) (hn : n ≤ 9000000000000000000) (hs : ∀ k, k < n → CertSz 9000000000000000000 (ks k)) (hsm : CertSz 9000000000000000000 m) (ha : a ≤ 255) :
    Calls Tryz.prog 10 #[.slice A n cap, z.val m, .int .u8 a] w fun e w' => e = .returned (.bool true) ∧ Below w.heap.size w w' := by
  obtain ⟨i0, hi0, hz0, hz1, hz2⟩ := info_parts cert_info
  have hC : Blk (w.alloc (.cells (z.cells m) 30)) w.heap.size 30 (z.cells m) := Blk.new _ _ _
  have hb0 : Below w.heap.size w (w.alloc (.cells (z.cells m) 30)) := (Below.refl _ _).alloc (Nat.le_refl _) _
  have KF := Lib.hid (fun (W : World) (hW : Below w.heap.size w W) => fits1_calls A n cap ks zs W (h.later hW) hn hs)
  have KG := Lib.hid (fun (W : World) (hW : Below w.heap.size w W) => fits2_calls z m W (hz.later hW) hsm)
  have KO := Lib.hid (fun (hq : ∀ k, k < n → CertSz 2147483647 (ks k)) (W : World) (hW : Below w.heap.size w W) => chainOk_calls A n cap ks zs W (h.later hW) hn hq)
  have KP := Lib.hid (fun (hq : CertSz 2147483647 m) (W : World) (hW : Below w.heap.size w W) => certOk_calls z m W (hz.later hW) hq)
  have H := Lib.hid (And.intro h hz)
  have HL := Lib.hid hL
  have HO := Lib.hid (fun hok : certB m = true => (certB_ok hok).1)
  have HV := Lib.hid (lit_own w)
  clear h hs hL hz hsm
  unfold GSlots.val cval len4 at KG KP ⊢
  unfold GSlots.cells at hC hb0
  simp only at hC hb0 KG KP ⊢
  have HC := Lib.hid hC
  clear hC
  obtain ⟨d0, d1, d2, d3, d4, d5, d6, d7, d8, d9, d10, d11, e5, e6, e7⟩ := cells12 HC.out
  obtain ⟨K, hK, hKn⟩ : ∃ K : Nat, ((a : Int) % ((n : Int) + 1)) = (K : Int) ∧ K ≤ n := ⟨a % (n + 1), by simp, Nat.le_of_lt_succ (Nat.mod_lt a (Nat.succ_pos n))⟩
  by_cases h0 : n = 0
  · subst h0
    go_enter Tryz.func10, Tryz.ntmps10
    go_wp2_with (first
      | (go_at_call 23; (with_reducible refine (KF.out _ hb0).mono ?_); rintro e w1 ⟨q1, rfl, hb1, f1⟩; clear f1; have B1 := hb0.trans (hb1.mono hb0.size); have HC1 := Lib.hid (HC.out.later hb1); obtain ⟨f0, f1, f2, f3, f4, f5, f6, f7, f8, f9, f10, f11, fe5, fe6, fe7⟩ := cells12 HC1.out; cases q1)
      | (go_at_call 18; (with_reducible refine (KG.out _ B1).mono ?_); rintro e w2 ⟨q2, rfl, hb2, f2⟩; clear f2; have B2 := B1.trans (hb2.mono B1.size); cases q2)
      | fail)
    all_goals go_ret
    all_goals first
      | exact ⟨rfl, B2⟩
      | exact ⟨rfl, B1⟩
  by_cases h7 : n ≤ 7
  case neg =>
    go_enter Tryz.func10, Tryz.ntmps10
    go_wp2_with (first
      | (go_at_call 23; (with_reducible refine (KF.out _ hb0).mono ?_); rintro e w1 ⟨q1, rfl, hb1, f1⟩; clear f1; have B1 := hb0.trans (hb1.mono hb0.size); have HC1 := Lib.hid (HC.out.later hb1); obtain ⟨f0, f1, f2, f3, f4, f5, f6, f7, f8, f9, f10, f11, fe5, fe6, fe7⟩ := cells12 HC1.out; cases q1)
      | (go_at_call 18; (with_reducible refine (KG.out _ B1).mono ?_); rintro e w2 ⟨q2, rfl, hb2, f2⟩; clear f2; have B2 := B1.trans (hb2.mono B1.size); cases q2)
      | fail)
    all_goals go_ret
    all_goals first
      | exact ⟨rfl, B2⟩
      | exact ⟨rfl, B1⟩
  cases hB : chainB ks n with
  | false =>
    rw [hB] at KO
    clear hB
    go_enter Tryz.func10, Tryz.ntmps10
    go_wp2_with (first
      | (go_at_call 23; (with_reducible refine (KF.out _ hb0).mono ?_); rintro e w1 ⟨q1, rfl, hb1, f1⟩; have HF1 := Lib.hid f1; clear f1; have B1 := hb0.trans (hb1.mono hb0.size); have HC1 := Lib.hid (HC.out.later hb1); obtain ⟨f0, f1, f2, f3, f4, f5, f6, f7, f8, f9, f10, f11, fe5, fe6, fe7⟩ := cells12 HC1.out; cases q1)
      | (go_at_call 18; (with_reducible refine (KG.out _ B1).mono ?_); rintro e w2 ⟨q2, rfl, hb2, f2⟩; clear f2; have B2 := B1.trans (hb2.mono B1.size); cases q2)
      | (go_at_call 24; (with_reducible refine (KO.out (HF1.out (by first | rfl | trivial)).2 _ B2).mono ?_); rintro e w3 ⟨rfl, hb3⟩; have B3 := B2.trans (hb3.mono B2.size))
      | fail)
    all_goals go_ret
    all_goals first
      | exact ⟨rfl, B3⟩
      | exact ⟨rfl, B2⟩
      | exact ⟨rfl, B1⟩
  | true =>
    rw [hB] at KO
    obtain ⟨h8, hc⟩ := chainB_ok hB
    have HOk := Lib.hid (fun k hk => (certB_ok (hc k hk)).1)
    clear hB hc h8
    cases hM : certB m with
    | false =>
      rw [hM] at KP
      clear hM
      go_enter Tryz.func10, Tryz.ntmps10
      go_wp2_with (first
        | (go_at_call 23; (with_reducible refine (KF.out _ hb0).mono ?_); rintro e w1 ⟨q1, rfl, hb1, f1⟩; have HF1 := Lib.hid f1; clear f1; have B1 := hb0.trans (hb1.mono hb0.size); have HC1 := Lib.hid (HC.out.later hb1); obtain ⟨f0, f1, f2, f3, f4, f5, f6, f7, f8, f9, f10, f11, fe5, fe6, fe7⟩ := cells12 HC1.out; cases q1)
        | (go_at_call 18; (with_reducible refine (KG.out _ B1).mono ?_); rintro e w2 ⟨q2, rfl, hb2, f2⟩; have HF2 := Lib.hid f2; clear f2; have B2 := B1.trans (hb2.mono B1.size); have HC2 := Lib.hid (HC1.out.later hb2); obtain ⟨g0, g1, g2, g3, g4, g5, g6, g7, g8, g9, g10, g11, ge5, ge6, ge7⟩ := cells12 HC2.out; cases q2)
        | (go_at_call 24; (with_reducible refine (KO.out (HF1.out (by first | rfl | trivial)).2 _ B2).mono ?_); rintro e w3 ⟨rfl, hb3⟩; have B3 := B2.trans (hb3.mono B2.size); have HC3 := Lib.hid (HC2.out.later hb3); obtain ⟨j0, j1, j2, j3, j4, j5, j6, j7, j8, j9, j10, j11, je5, je6, je7⟩ := cells12 HC3.out)
        | (go_at_call 19; (with_reducible refine (KP.out (HF2.out (by first | rfl | trivial)) _ B3).mono ?_); rintro e w4 ⟨rfl, hb4⟩; have B4 := B3.trans (hb4.mono B3.size))
        | fail)
      all_goals go_ret
      all_goals first
        | exact ⟨rfl, B4⟩
        | exact ⟨rfl, B2⟩
        | exact ⟨rfl, B1⟩
    | true =>
      have HOm := Lib.hid (HO.out hM)
      rw [hM] at KP
      clear hM HO
      have KI := Lib.hid (fun (base : Nat) (v : Value) (W : World) (ho : W.ownsRow base 30 12 v n (flatC zs ks n)) (hW : base ≤ W.heap.size) => insert_calls base n K W.heap.size v (flatC zs ks n) [Value.slice none 0 0, Value.slice none 0 0, Value.slice none 0 0, Value.slice none 0 0, Value.slice none 0 0, Value.slice none 0 0, Value.slice none 0 0, Value.slice none 0 0, Value.slice none 0 0, Value.slice none 0 0, Value.slice none 0 0, Value.slice none 0 0] (W.alloc (.cells #[.slice none 0 0, .slice none 0 0, .slice none 0 0, .slice none 0 0, .slice none 0 0, .slice none 0 0, .slice none 0 0, .slice none 0 0, .slice none 0 0, .slice none 0 0, .slice none 0 0, .slice none 0 0] 30)) (ho.alloc _) h0 hKn (by omega) (by rw [World.size_alloc]; omega) (flatC_ones _ _ _) (Blk.new _ _ _) rfl (by intro u hu; simp at hu; subst hu; rfl) (fun g hg => by have := (ho.lt g hg).2; omega))
      have KD := Lib.hid (fun (W : World) (hW : Below w.heap.size w W) => clone37_calls A n cap (flatC zs ks n) W (chain_reads (H.out.1.later hW)) (flatC_ones _ _ _) (by omega))
      have KR := Lib.hid (fun (W : World) (hW : Below w.heap.size w W) => refusedChain_calls W (HL.out.keep hW))
      cases hR : refL XIP (listOf ks n) with
      | false =>
        have hr0 := ref_iff ks n
        rw [hR] at hr0
        have KC := Lib.hid (fun (W : World) (hW : Below w.heap.size w W) => xChain_calls ks zs n cap A W (HL.out.keep hW) (by omega) (by omega) (HOk.out) (H.out.1.later hW) false hr0)
        have KN := Lib.hid (fun (base : Nat) (v : Value) (W : World) (ho : W.ownsRow base 30 12 v (n + 1) ((flatC zs ks n).take (K * 12) ++ ([Value.slice none 0 0, Value.slice none 0 0, Value.slice none 0 0, Value.slice none 0 0, Value.slice none 0 0, Value.slice none 0 0, Value.slice none 0 0, Value.slice none 0 0, Value.slice none 0 0, Value.slice none 0 0, Value.slice none 0 0, Value.slice none 0 0] ++ (flatC zs ks n).drop (K * 12)))) (hW : Below w.heap.size w W) => ins_calls (z := nilSlots) (m := GC.none_) HL.out hKn (by omega) ho hW H.out.1.each (none_rd w) HOk.out none_ok false (by rw [← hR]; exact ref_none XIP (fun _ => rfl) ks hKn))
        unfold codeB at KC KN
        clear hr0 hR
        go_enter Tryz.func10, Tryz.ntmps10
        go_wp2_with (first
          | (go_at_call 23; (with_reducible refine (KF.out _ hb0).mono ?_); rintro e w1 ⟨q1, rfl, hb1, f1⟩; have HF1 := Lib.hid f1; clear f1; have B1 := hb0.trans (hb1.mono hb0.size); have HC1 := Lib.hid (HC.out.later hb1); obtain ⟨f0, f1, f2, f3, f4, f5, f6, f7, f8, f9, f10, f11, fe5, fe6, fe7⟩ := cells12 HC1.out; cases q1)
          | fail)
        · go_ret
          exact ⟨rfl, B1⟩
        go_wp2_with (first
          | (go_at_call 18; (with_reducible refine (KG.out _ B1).mono ?_); rintro e w2 ⟨q2, rfl, hb2, f2⟩; have HF2 := Lib.hid f2; clear f2; have B2 := B1.trans (hb2.mono B1.size); have HC2 := Lib.hid (HC1.out.later hb2); obtain ⟨g0, g1, g2, g3, g4, g5, g6, g7, g8, g9, g10, g11, ge5, ge6, ge7⟩ := cells12 HC2.out; cases q2)
          | fail)
        · go_ret
          exact ⟨rfl, B2⟩
        go_wp2_with (first
          | (go_at_call 24; (with_reducible refine (KO.out (HF1.out (by first | rfl | trivial)).2 _ B2).mono ?_); rintro e w3 ⟨rfl, hb3⟩; have B3 := B2.trans (hb3.mono B2.size); have HC3 := Lib.hid (HC2.out.later hb3); obtain ⟨j0, j1, j2, j3, j4, j5, j6, j7, j8, j9, j10, j11, je5, je6, je7⟩ := cells12 HC3.out)
          | (go_at_call 19; (with_reducible refine (KP.out (HF2.out (by first | rfl | trivial)) _ B3).mono ?_); rintro e w4 ⟨rfl, hb4⟩; have B4 := B3.trans (hb4.mono B3.size); have HC4 := Lib.hid (HC3.out.later hb4))
          | fail)
        clear KF KG KO KP
        go_wp2_with (first
          | (go_at_call 21; (with_reducible refine (KC.out _ B4).mono ?_); rintro e w5 ⟨rfl, hb5⟩; have B5 := B4.trans (hb5.mono B4.size); have HC5 := Lib.hid (HC4.out.later hb5))
          | (go_at_call 35; (with_reducible refine (KD.out _ B5).mono ?_); rintro e w6 ⟨v6, rfl, o6, hb6⟩; have B6 := B5.trans (hb6.mono B5.size); have HC6 := Lib.hid (HC5.out.later hb6))
          | (go_at_call 34; (with_reducible refine (KI.out _ _ _ o6 hb6.size).mono ?_); rintro e w7 ⟨v7, rfl, o7, hb7⟩; have B7 := (B6.alloc B6.size (.cells #[.slice none 0 0, .slice none 0 0, .slice none 0 0, .slice none 0 0, .slice none 0 0, .slice none 0 0, .slice none 0 0, .slice none 0 0, .slice none 0 0, .slice none 0 0, .slice none 0 0, .slice none 0 0] 30)).trans (hb7.mono B5.size); have HC7 := Lib.hid ((HC6.out.alloc (.cells #[.slice none 0 0, .slice none 0 0, .slice none 0 0, .slice none 0 0, .slice none 0 0, .slice none 0 0, .slice none 0 0, .slice none 0 0, .slice none 0 0, .slice none 0 0, .slice none 0 0, .slice none 0 0] 30)).below hb7 HC5.out.lt))
          | (go_at_call 21; (with_reducible refine (KN.out _ _ _ o7 B7).mono ?_); rintro e w8 ⟨rfl, hb8⟩; have B8 := B7.trans (hb8.mono B7.size); have HC8 := Lib.hid (HC7.out.later hb8))
          | (go_at_call 20; (with_reducible refine (KR.out _ B8).mono ?_); rintro e w9 ⟨rfl, hb9⟩; have B9 := B8.trans (hb9.mono B8.size); have HC9 := Lib.hid (HC8.out.later hb9))
          | fail)
        refine wp_region_noPanic ?_
        refine wp_region_held_drew (S := fun _ => True) (by kernel_rfl) trivial (fun hHeld0 => ?_)
        refine wpAnyH_take (i := 0) (oi := { dst := some 62, op := _, type := _, pos := _, after := _, guard := _ }) (v := ?v0) rfl (by kernel_rfl) (by kernel_rfl) (by kernel_rfl) (fun _ _ _ h => h) (Or.inl ⟨by rfl, ?y0⟩) (by trivial) ?r0
        case y0 => (intro W hSw; (try dsimp only at hSw); go_simp; try with_reducible rfl)
        (try simp only [Act.put, List.setIfInBounds_toArray, List.set_cons_zero, List.set_cons_succ])
        refine wpAnyH_take (i := 1) (oi := { dst := some 63, op := _, type := _, pos := _, after := _, guard := _ }) (v := ?v1) rfl (by kernel_rfl) (by kernel_rfl) (by kernel_rfl) (fun _ _ _ h => h) (Or.inl ⟨by rfl, ?y1⟩) (by trivial) ?r1
        case y1 => (intro W hSw; (try dsimp only at hSw); go_simp; try with_reducible rfl)
        (try simp only [Act.put, List.setIfInBounds_toArray, List.set_cons_zero, List.set_cons_succ])
        refine wpAnyH_take (i := 2) (oi := { dst := some 64, op := _, type := _, pos := _, after := _, guard := _ }) (v := ?v2) rfl (by kernel_rfl) (by kernel_rfl) (by kernel_rfl) (fun _ _ _ h => h) (Or.inl ⟨by rfl, ?y2⟩) (by trivial) ?r2
        case y2 => (intro W hSw; (try dsimp only at hSw); go_simp; try with_reducible rfl)
        (try simp only [Act.put, List.setIfInBounds_toArray, List.set_cons_zero, List.set_cons_succ])
        refine wpAnyH_take (i := 3) (oi := { dst := some 65, op := _, type := _, pos := _, after := _, guard := _ }) (v := undef) rfl (by kernel_rfl) (by kernel_rfl) (by kernel_rfl) (fun _ _ _ h => h) (Or.inr ⟨by rfl, rfl⟩) (by trivial) ?_
        (try simp only [Act.put, List.setIfInBounds_toArray, List.set_cons_zero, List.set_cons_succ])
        refine wpAnyH_take (i := 4) (oi := { dst := some 66, op := _, type := _, pos := _, after := _, guard := _ }) (v := undef) rfl (by kernel_rfl) (by kernel_rfl) (by kernel_rfl) (fun _ _ _ h => h) (Or.inr ⟨by rfl, rfl⟩) (by trivial) ?_
        (try simp only [Act.put, List.setIfInBounds_toArray, List.set_cons_zero, List.set_cons_succ])
        refine wpAnyH_take (i := 5) (oi := { dst := some 67, op := _, type := _, pos := _, after := _, guard := _ }) (v := undef) rfl (by kernel_rfl) (by kernel_rfl) (by kernel_rfl) (fun _ _ _ h => h) (Or.inr ⟨by rfl, rfl⟩) (by trivial) ?_
        (try simp only [Act.put, List.setIfInBounds_toArray, List.set_cons_zero, List.set_cons_succ])
        refine wpAnyH_take (i := 6) (oi := { dst := some 68, op := _, type := _, pos := _, after := _, guard := _ }) (v := undef) rfl (by kernel_rfl) (by kernel_rfl) (by kernel_rfl) (fun _ _ _ h => h) (Or.inr ⟨by rfl, rfl⟩) (by trivial) ?_
        (try simp only [Act.put, List.setIfInBounds_toArray, List.set_cons_zero, List.set_cons_succ])
        refine wpAnyH_take (i := 7) (oi := { dst := some 69, op := _, type := _, pos := _, after := _, guard := _ }) (v := undef) rfl (by kernel_rfl) (by kernel_rfl) (by kernel_rfl) (fun _ _ _ h => h) (Or.inr ⟨by rfl, rfl⟩) (by trivial) ?_
        (try simp only [Act.put, List.setIfInBounds_toArray, List.set_cons_zero, List.set_cons_succ])
        refine wpAnyH_take (i := 8) (oi := { dst := some 70, op := _, type := _, pos := _, after := _, guard := _ }) (v := undef) rfl (by kernel_rfl) (by kernel_rfl) (by kernel_rfl) (fun _ _ _ h => h) (Or.inr ⟨by rfl, rfl⟩) (by trivial) ?_
        (try simp only [Act.put, List.setIfInBounds_toArray, List.set_cons_zero, List.set_cons_succ])
        refine wpAnyH_take (i := 9) (oi := { dst := some 71, op := _, type := _, pos := _, after := _, guard := _ }) (v := undef) rfl (by kernel_rfl) (by kernel_rfl) (by kernel_rfl) (fun _ _ _ h => h) (Or.inr ⟨by rfl, rfl⟩) (by trivial) ?_
        (try simp only [Act.put, List.setIfInBounds_toArray, List.set_cons_zero, List.set_cons_succ])
        refine wpAnyH_take (i := 10) (oi := { dst := some 72, op := _, type := _, pos := _, after := _, guard := _ }) (v := undef) rfl (by kernel_rfl) (by kernel_rfl) (by kernel_rfl) (fun _ _ _ h => h) (Or.inr ⟨by rfl, rfl⟩) (by trivial) ?_
        (try simp only [Act.put, List.setIfInBounds_toArray, List.set_cons_zero, List.set_cons_succ])
        refine wpAnyH_take (i := 11) (oi := { dst := some 73, op := _, type := _, pos := _, after := _, guard := _ }) (v := undef) rfl (by kernel_rfl) (by kernel_rfl) (by kernel_rfl) (fun _ _ _ h => h) (Or.inr ⟨by rfl, rfl⟩) (by trivial) ?_
        (try simp only [Act.put, List.setIfInBounds_toArray, List.set_cons_zero, List.set_cons_succ])
        refine wpAnyH_take (i := 12) (oi := { dst := some 74, op := _, type := _, pos := _, after := _, guard := _ }) (v := undef) rfl (by kernel_rfl) (by kernel_rfl) (by kernel_rfl) (fun _ _ _ h => h) (Or.inr ⟨by rfl, rfl⟩) (by trivial) ?_
        (try simp only [Act.put, List.setIfInBounds_toArray, List.set_cons_zero, List.set_cons_succ])
        refine wpAnyH_take (i := 13) (oi := { dst := some 75, op := _, type := _, pos := _, after := _, guard := _ }) (v := undef) rfl (by kernel_rfl) (by kernel_rfl) (by kernel_rfl) (fun _ _ _ h => h) (Or.inr ⟨by rfl, rfl⟩) (by trivial) ?_
        (try simp only [Act.put, List.setIfInBounds_toArray, List.set_cons_zero, List.set_cons_succ])
        refine wpAnyH_take (i := 14) (oi := { dst := some 76, op := _, type := _, pos := _, after := _, guard := _ }) (v := undef) rfl (by kernel_rfl) (by kernel_rfl) (by kernel_rfl) (fun _ _ _ h => h) (Or.inr ⟨by rfl, rfl⟩) (by trivial) ?_
        (try simp only [Act.put, List.setIfInBounds_toArray, List.set_cons_zero, List.set_cons_succ])
        refine wpAnyH_take (i := 15) (oi := { dst := some 77, op := _, type := _, pos := _, after := _, guard := _ }) (v := undef) rfl (by kernel_rfl) (by kernel_rfl) (by kernel_rfl) (fun _ _ _ h => h) (Or.inr ⟨by rfl, rfl⟩) (by trivial) ?_
        (try simp only [Act.put, List.setIfInBounds_toArray, List.set_cons_zero, List.set_cons_succ])
        refine wpAnyH_take (i := 16) (oi := { dst := some 78, op := _, type := _, pos := _, after := _, guard := _ }) (v := undef) rfl (by kernel_rfl) (by kernel_rfl) (by kernel_rfl) (fun _ _ _ h => h) (Or.inr ⟨by rfl, rfl⟩) (by trivial) ?_
        (try simp only [Act.put, List.setIfInBounds_toArray, List.set_cons_zero, List.set_cons_succ])
        refine wpAnyH_take (i := 17) (oi := { dst := some 79, op := _, type := _, pos := _, after := _, guard := _ }) (v := undef) rfl (by kernel_rfl) (by kernel_rfl) (by kernel_rfl) (fun _ _ _ h => h) (Or.inr ⟨by rfl, rfl⟩) (by trivial) ?_
        (try simp only [Act.put, List.setIfInBounds_toArray, List.set_cons_zero, List.set_cons_succ])
        refine wpAnyH_take (i := 18) (oi := { dst := some 80, op := _, type := _, pos := _, after := _, guard := _ }) (v := ?v18) rfl (by kernel_rfl) (by kernel_rfl) (by kernel_rfl) (fun _ _ _ h => h) (Or.inl ⟨by rfl, ?y18⟩) (by trivial) ?r18
        case y18 => (intro W hSw; (try dsimp only at hSw); go_simp; try with_reducible rfl)
        (try simp only [Act.put, List.setIfInBounds_toArray, List.set_cons_zero, List.set_cons_succ])
        refine wpAnyH_take (i := 19) (oi := { dst := some 6, op := _, type := _, pos := _, after := _, guard := _ }) (v := ?v19) rfl (by kernel_rfl) (by kernel_rfl) (by kernel_rfl) (fun _ _ _ h => h) (Or.inl ⟨by rfl, ?y19⟩) (by trivial) ?r19
        case y19 => (intro W hSw; (try dsimp only at hSw); go_simp; try with_reducible rfl)
        (try simp only [Act.put, List.setIfInBounds_toArray, List.set_cons_zero, List.set_cons_succ])
        refine wpAnyH_done (by kernel_rfl) ?_ _
        refine NoPanic.normal ?_
        go_wp2
        go_ret
        exact ⟨rfl, B9.drew⟩
      | true =>
        have hr0 := ref_iff ks n
        rw [hR] at hr0
        have KC := Lib.hid (fun (W : World) (hW : Below w.heap.size w W) => xChain_calls ks zs n cap A W (HL.out.keep hW) (by omega) (by omega) (HOk.out) (H.out.1.later hW) true hr0)
        have KN := Lib.hid (fun (base : Nat) (v : Value) (W : World) (ho : W.ownsRow base 30 12 v (n + 1) ((flatC zs ks n).take (K * 12) ++ ([Value.slice none 0 0, Value.slice none 0 0, Value.slice none 0 0, Value.slice none 0 0, Value.slice none 0 0, Value.slice none 0 0, Value.slice none 0 0, Value.slice none 0 0, Value.slice none 0 0, Value.slice none 0 0, Value.slice none 0 0, Value.slice none 0 0] ++ (flatC zs ks n).drop (K * 12)))) (hW : Below w.heap.size w W) => ins_calls (z := nilSlots) (m := GC.none_) HL.out hKn (by omega) ho hW H.out.1.each (none_rd w) HOk.out none_ok true (by rw [← hR]; exact ref_none XIP (fun _ => rfl) ks hKn))
        unfold codeB at KC KN
        clear hr0
        have KA := Lib.hid (fun (base : Nat) (v : Value) (W : World) (ho : W.ownsRow base 30 12 v (n + 1) (flatC zs ks n ++ [Value.slice (z.pA 0) (m.p 0).length (z.pc 0), Value.slice (z.pA 1) (m.p 1).length (z.pc 1), Value.slice (z.pA 2) (m.p 2).length (z.pc 2), Value.slice (z.pA 3) m.pn.length (z.pc 3), Value.slice (z.eA 0) (m.e 0).length (z.ec 0), Value.slice (z.eA 1) (m.e 1).length (z.ec 1), Value.slice (z.eA 2) (m.e 2).length (z.ec 2), Value.slice (z.eA 3) m.en.length (z.ec 3), Value.slice (z.fA 0) (m.s 0).length (z.fc 0), Value.slice (z.fA 1) (m.s 1).length (z.fc 1), Value.slice (z.fA 2) (m.s 2).length (z.fc 2), Value.slice (z.fA 3) m.ad.length (z.fc 3)])) (hW : Below w.heap.size w W) => app_calls (z := z) (m := m) HL.out (by omega) ho hW H.out.1.each H.out.2 HOk.out HOm.out hR)
        have KB := Lib.hid (fun (base : Nat) (v : Value) (W : World) (ho : W.ownsRow base 30 12 v (n + 1) ([Value.slice (z.pA 0) (m.p 0).length (z.pc 0), Value.slice (z.pA 1) (m.p 1).length (z.pc 1), Value.slice (z.pA 2) (m.p 2).length (z.pc 2), Value.slice (z.pA 3) m.pn.length (z.pc 3), Value.slice (z.eA 0) (m.e 0).length (z.ec 0), Value.slice (z.eA 1) (m.e 1).length (z.ec 1), Value.slice (z.eA 2) (m.e 2).length (z.ec 2), Value.slice (z.eA 3) m.en.length (z.ec 3), Value.slice (z.fA 0) (m.s 0).length (z.fc 0), Value.slice (z.fA 1) (m.s 1).length (z.fc 1), Value.slice (z.fA 2) (m.s 2).length (z.fc 2), Value.slice (z.fA 3) m.ad.length (z.fc 3)] ++ flatC zs ks n)) (hW : Below w.heap.size w W) => pre_calls (z := z) (m := m) HL.out (by omega) ho hW H.out.1.each H.out.2 HOk.out HOm.out hR)
        clear hR
        go_enter Tryz.func10, Tryz.ntmps10
        go_wp2_with (first
          | (go_at_call 23; (with_reducible refine (KF.out _ hb0).mono ?_); rintro e w1 ⟨q1, rfl, hb1, f1⟩; have HF1 := Lib.hid f1; clear f1; have B1 := hb0.trans (hb1.mono hb0.size); have HC1 := Lib.hid (HC.out.later hb1); obtain ⟨f0, f1, f2, f3, f4, f5, f6, f7, f8, f9, f10, f11, fe5, fe6, fe7⟩ := cells12 HC1.out; cases q1)
          | fail)
        · go_ret
          exact ⟨rfl, B1⟩
        go_wp2_with (first
          | (go_at_call 18; (with_reducible refine (KG.out _ B1).mono ?_); rintro e w2 ⟨q2, rfl, hb2, f2⟩; have HF2 := Lib.hid f2; clear f2; have B2 := B1.trans (hb2.mono B1.size); have HC2 := Lib.hid (HC1.out.later hb2); obtain ⟨g0, g1, g2, g3, g4, g5, g6, g7, g8, g9, g10, g11, ge5, ge6, ge7⟩ := cells12 HC2.out; cases q2)
          | fail)
        · go_ret
          exact ⟨rfl, B2⟩
        go_wp2_with (first
          | (go_at_call 24; (with_reducible refine (KO.out (HF1.out (by first | rfl | trivial)).2 _ B2).mono ?_); rintro e w3 ⟨rfl, hb3⟩; have B3 := B2.trans (hb3.mono B2.size); have HC3 := Lib.hid (HC2.out.later hb3); obtain ⟨j0, j1, j2, j3, j4, j5, j6, j7, j8, j9, j10, j11, je5, je6, je7⟩ := cells12 HC3.out)
          | (go_at_call 19; (with_reducible refine (KP.out (HF2.out (by first | rfl | trivial)) _ B3).mono ?_); rintro e w4 ⟨rfl, hb4⟩; have B4 := B3.trans (hb4.mono B3.size); have HC4 := Lib.hid (HC3.out.later hb4))
          | fail)
        clear KF KG KO KP
        go_wp2_with (first
          | (go_at_call 21; (with_reducible refine (KC.out _ B4).mono ?_); rintro e w5 ⟨rfl, hb5⟩; have B5 := B4.trans (hb5.mono B4.size); have HC5 := Lib.hid (HC4.out.later hb5))
          | (go_at_call 35; (with_reducible refine (KD.out _ B5).mono ?_); rintro e w6 ⟨v6, rfl, o6, hb6⟩; have B6 := B5.trans (hb6.mono B5.size); have HC6 := Lib.hid (HC5.out.later hb6))
          | (go_at_call 34; (with_reducible refine (KI.out _ _ _ o6 hb6.size).mono ?_); rintro e w7 ⟨v7, rfl, o7, hb7⟩; have B7 := (B6.alloc B6.size (.cells #[.slice none 0 0, .slice none 0 0, .slice none 0 0, .slice none 0 0, .slice none 0 0, .slice none 0 0, .slice none 0 0, .slice none 0 0, .slice none 0 0, .slice none 0 0, .slice none 0 0, .slice none 0 0] 30)).trans (hb7.mono B5.size); have HC7 := Lib.hid ((HC6.out.alloc (.cells #[.slice none 0 0, .slice none 0 0, .slice none 0 0, .slice none 0 0, .slice none 0 0, .slice none 0 0, .slice none 0 0, .slice none 0 0, .slice none 0 0, .slice none 0 0, .slice none 0 0, .slice none 0 0] 30)).below hb7 HC5.out.lt))
          | (go_at_call 21; (with_reducible refine (KN.out _ _ _ o7 B7).mono ?_); rintro e w8 ⟨rfl, hb8⟩; have B8 := B7.trans (hb8.mono B7.size); have HC8 := Lib.hid (HC7.out.later hb8))
          | (go_at_call 20; (with_reducible refine (KR.out _ B8).mono ?_); rintro e w9 ⟨rfl, hb9⟩; have B9 := B8.trans (hb9.mono B8.size); have HC9 := Lib.hid (HC8.out.later hb9))
          | fail)
        have B9d := (B9.alloc B9.size (.cells #[.slice (z.pA 0) (m.p 0).length (z.pc 0), .slice (z.pA 1) (m.p 1).length (z.pc 1), .slice (z.pA 2) (m.p 2).length (z.pc 2), .slice (z.pA 3) m.pn.length (z.pc 3), .slice (z.eA 0) (m.e 0).length (z.ec 0), .slice (z.eA 1) (m.e 1).length (z.ec 1), .slice (z.eA 2) (m.e 2).length (z.ec 2), .slice (z.eA 3) m.en.length (z.ec 3), .slice (z.fA 0) (m.s 0).length (z.fc 0), .slice (z.fA 1) (m.s 1).length (z.fc 1), .slice (z.fA 2) (m.s 2).length (z.fc 2), .slice (z.fA 3) m.ad.length (z.fc 3)] 30)).drew
        have C9d := Lib.hid (HC9.out.alloc (.cells #[.slice (z.pA 0) (m.p 0).length (z.pc 0), .slice (z.pA 1) (m.p 1).length (z.pc 1), .slice (z.pA 2) (m.p 2).length (z.pc 2), .slice (z.pA 3) m.pn.length (z.pc 3), .slice (z.eA 0) (m.e 0).length (z.ec 0), .slice (z.eA 1) (m.e 1).length (z.ec 1), .slice (z.eA 2) (m.e 2).length (z.ec 2), .slice (z.eA 3) m.en.length (z.ec 3), .slice (z.fA 0) (m.s 0).length (z.fc 0), .slice (z.fA 1) (m.s 1).length (z.fc 1), .slice (z.fA 2) (m.s 2).length (z.fc 2), .slice (z.fA 3) m.ad.length (z.fc 3)] 30)).drew
        have L9d := Lib.hid (Blk.new w9 30 #[.slice (z.pA 0) (m.p 0).length (z.pc 0), .slice (z.pA 1) (m.p 1).length (z.pc 1), .slice (z.pA 2) (m.p 2).length (z.pc 2), .slice (z.pA 3) m.pn.length (z.pc 3), .slice (z.eA 0) (m.e 0).length (z.ec 0), .slice (z.eA 1) (m.e 1).length (z.ec 1), .slice (z.eA 2) (m.e 2).length (z.ec 2), .slice (z.eA 3) m.en.length (z.ec 3), .slice (z.fA 0) (m.s 0).length (z.fc 0), .slice (z.fA 1) (m.s 1).length (z.fc 1), .slice (z.fA 2) (m.s 2).length (z.fc 2), .slice (z.fA 3) m.ad.length (z.fc 3)]).drew
        go_region_held3 (fun W => W.cell? ⟨w.heap.size, 0, none⟩ = some (.slice (z.pA 0) (m.p 0).length (z.pc 0)) ∧ W.cell? ⟨w.heap.size, 1, none⟩ = some (.slice (z.pA 1) (m.p 1).length (z.pc 1)) ∧ W.cell? ⟨w.heap.size, 2, none⟩ = some (.slice (z.pA 2) (m.p 2).length (z.pc 2)) ∧ W.cell? ⟨w.heap.size, 3, none⟩ = some (.slice (z.pA 3) m.pn.length (z.pc 3)) ∧ W.cell? ⟨w.heap.size, 4, none⟩ = some (.slice (z.eA 0) (m.e 0).length (z.ec 0)) ∧ W.cell? ⟨w.heap.size, 5, none⟩ = some (.slice (z.eA 1) (m.e 1).length (z.ec 1)) ∧ W.cell? ⟨w.heap.size, 6, none⟩ = some (.slice (z.eA 2) (m.e 2).length (z.ec 2)) ∧ W.cell? ⟨w.heap.size, 7, none⟩ = some (.slice (z.eA 3) m.en.length (z.ec 3)) ∧ W.cell? ⟨w.heap.size, 8, none⟩ = some (.slice (z.fA 0) (m.s 0).length (z.fc 0)) ∧ W.cell? ⟨w.heap.size, 9, none⟩ = some (.slice (z.fA 1) (m.s 1).length (z.fc 1)) ∧ W.cell? ⟨w.heap.size, 10, none⟩ = some (.slice (z.fA 2) (m.s 2).length (z.fc 2)) ∧ W.cell? ⟨w.heap.size, 11, none⟩ = some (.slice (z.fA 3) m.ad.length (z.fc 3)))
          (first
            | (with_reducible exact ⟨HC9.out.drew.at_ 0 rfl, HC9.out.drew.at_ 1 rfl, HC9.out.drew.at_ 2 rfl, HC9.out.drew.at_ 3 rfl, HC9.out.drew.at_ 4 rfl, HC9.out.drew.at_ 5 rfl, HC9.out.drew.at_ 6 rfl, HC9.out.drew.at_ 7 rfl, HC9.out.drew.at_ 8 rfl, HC9.out.drew.at_ 9 rfl, HC9.out.drew.at_ 10 rfl, HC9.out.drew.at_ 11 rfl⟩)
            | (with_reducible exact ⟨C9d.out.at_ 0 rfl, C9d.out.at_ 1 rfl, C9d.out.at_ 2 rfl, C9d.out.at_ 3 rfl, C9d.out.at_ 4 rfl, C9d.out.at_ 5 rfl, C9d.out.at_ 6 rfl, C9d.out.at_ 7 rfl, C9d.out.at_ 8 rfl, C9d.out.at_ 9 rfl, C9d.out.at_ 10 rfl, C9d.out.at_ 11 rfl⟩)
            | (with_reducible exact ⟨JA.out.2.at_ 0 rfl, JA.out.2.at_ 1 rfl, JA.out.2.at_ 2 rfl, JA.out.2.at_ 3 rfl, JA.out.2.at_ 4 rfl, JA.out.2.at_ 5 rfl, JA.out.2.at_ 6 rfl, JA.out.2.at_ 7 rfl, JA.out.2.at_ 8 rfl, JA.out.2.at_ 9 rfl, JA.out.2.at_ 10 rfl, JA.out.2.at_ 11 rfl⟩)
            | (with_reducible exact ⟨(JA.out.2.alloc _).at_ 0 rfl, (JA.out.2.alloc _).at_ 1 rfl, (JA.out.2.alloc _).at_ 2 rfl, (JA.out.2.alloc _).at_ 3 rfl, (JA.out.2.alloc _).at_ 4 rfl, (JA.out.2.alloc _).at_ 5 rfl, (JA.out.2.alloc _).at_ 6 rfl, (JA.out.2.alloc _).at_ 7 rfl, (JA.out.2.alloc _).at_ 8 rfl, (JA.out.2.alloc _).at_ 9 rfl, (JA.out.2.alloc _).at_ 10 rfl, (JA.out.2.alloc _).at_ 11 rfl⟩)
            | (with_reducible exact ⟨JB.out.2.at_ 0 rfl, JB.out.2.at_ 1 rfl, JB.out.2.at_ 2 rfl, JB.out.2.at_ 3 rfl, JB.out.2.at_ 4 rfl, JB.out.2.at_ 5 rfl, JB.out.2.at_ 6 rfl, JB.out.2.at_ 7 rfl, JB.out.2.at_ 8 rfl, JB.out.2.at_ 9 rfl, JB.out.2.at_ 10 rfl, JB.out.2.at_ 11 rfl⟩)
            | (with_reducible exact ⟨JC.out.2.at_ 0 rfl, JC.out.2.at_ 1 rfl, JC.out.2.at_ 2 rfl, JC.out.2.at_ 3 rfl, JC.out.2.at_ 4 rfl, JC.out.2.at_ 5 rfl, JC.out.2.at_ 6 rfl, JC.out.2.at_ 7 rfl, JC.out.2.at_ 8 rfl, JC.out.2.at_ 9 rfl, JC.out.2.at_ 10 rfl, JC.out.2.at_ 11 rfl⟩)
            | (with_reducible exact ⟨(JC.out.2.alloc _).at_ 0 rfl, (JC.out.2.alloc _).at_ 1 rfl, (JC.out.2.alloc _).at_ 2 rfl, (JC.out.2.alloc _).at_ 3 rfl, (JC.out.2.alloc _).at_ 4 rfl, (JC.out.2.alloc _).at_ 5 rfl, (JC.out.2.alloc _).at_ 6 rfl, (JC.out.2.alloc _).at_ 7 rfl, (JC.out.2.alloc _).at_ 8 rfl, (JC.out.2.alloc _).at_ 9 rfl, (JC.out.2.alloc _).at_ 10 rfl, (JC.out.2.alloc _).at_ 11 rfl⟩)
            | (with_reducible exact ⟨JD.out.2.at_ 0 rfl, JD.out.2.at_ 1 rfl, JD.out.2.at_ 2 rfl, JD.out.2.at_ 3 rfl, JD.out.2.at_ 4 rfl, JD.out.2.at_ 5 rfl, JD.out.2.at_ 6 rfl, JD.out.2.at_ 7 rfl, JD.out.2.at_ 8 rfl, JD.out.2.at_ 9 rfl, JD.out.2.at_ 10 rfl, JD.out.2.at_ 11 rfl⟩)
            | (with_reducible exact ⟨JE.out.2.at_ 0 rfl, JE.out.2.at_ 1 rfl, JE.out.2.at_ 2 rfl, JE.out.2.at_ 3 rfl, JE.out.2.at_ 4 rfl, JE.out.2.at_ 5 rfl, JE.out.2.at_ 6 rfl, JE.out.2.at_ 7 rfl, JE.out.2.at_ 8 rfl, JE.out.2.at_ 9 rfl, JE.out.2.at_ 10 rfl, JE.out.2.at_ 11 rfl⟩)
            | fail)
          (first
            | (go_at_call 35; (with_reducible refine (KD.out _ B9.drew).mono ?_); rintro e x1 ⟨va, rfl, oa, ha1⟩; have JA := Lib.hid (And.intro (B9.drew.trans (ha1.mono B9.drew.size)) (HC9.out.drew.later ha1)); have OA := Lib.hid (And.intro oa ha1.size); clear oa)
            | (go_at_call 35; (with_reducible refine (KD.out _ B9d).mono ?_); rintro e x1 ⟨va, rfl, oa, ha1⟩; have JA := Lib.hid (And.intro (B9d.trans (ha1.mono B9d.size)) (C9d.out.later ha1)); have OA := Lib.hid (And.intro (own_less oa (size_alloc_le w9 _)) (Nat.le_trans (size_alloc_le w9 _) ha1.size)); have LB := Lib.hid (L9d.out.later ha1); clear oa)
            | ((with_reducible refine step_append_w ?hw _ (.tmp 68) _ rfl w9.drew.heap.size 30 i0 _ 12 288 Tryz.underlying37 hi0 hz0 hz1 hz2 rfl (by omega) va n _ rfl (OA.out.1.alloc _) (x1.heap.size + 1) (some ⟨x1.heap.size, 0, none⟩) 1 1 _ rfl (lit_reads x1 _ (by simp)) (by simp [Value.oneCell']) (by simp only [maxLen]; omega) (by omega) (Nat.le_trans OA.out.2 (size_alloc_le x1 _)) ?_); (case hw => rfl); intro vb x2 ob gb ab; have JB := Lib.hid (app_kept (.cells #[.slice (z.pA 0) (m.p 0).length (z.pc 0), .slice (z.pA 1) (m.p 1).length (z.pc 1), .slice (z.pA 2) (m.p 2).length (z.pc 2), .slice (z.pA 3) m.pn.length (z.pc 3), .slice (z.eA 0) (m.e 0).length (z.ec 0), .slice (z.eA 1) (m.e 1).length (z.ec 1), .slice (z.eA 2) (m.e 2).length (z.ec 2), .slice (z.eA 3) m.en.length (z.ec 3), .slice (z.fA 0) (m.s 0).length (z.fc 0), .slice (z.fA 1) (m.s 1).length (z.fc 1), .slice (z.fA 2) (m.s 2).length (z.fc 2), .slice (z.fA 3) m.ad.length (z.fc 3)] 30) JA.out.1 JA.out.2 OA.out.1 gb B9.drew.size HC9.out.drew.lt); have OB := Lib.hid ob; clear ob)
            | ((with_reducible refine step_append_w ?hw _ (.tmp 68) _ rfl w9.heap.size 30 i0 _ 12 288 Tryz.underlying37 hi0 hz0 hz1 hz2 rfl (by omega) va n _ rfl OA.out.1 x1.heap.size (some ⟨w9.heap.size, 0, none⟩) 1 1 [Value.slice (z.pA 0) (m.p 0).length (z.pc 0), Value.slice (z.pA 1) (m.p 1).length (z.pc 1), Value.slice (z.pA 2) (m.p 2).length (z.pc 2), Value.slice (z.pA 3) m.pn.length (z.pc 3), Value.slice (z.eA 0) (m.e 0).length (z.ec 0), Value.slice (z.eA 1) (m.e 1).length (z.ec 1), Value.slice (z.eA 2) (m.e 2).length (z.ec 2), Value.slice (z.eA 3) m.en.length (z.ec 3), Value.slice (z.fA 0) (m.s 0).length (z.fc 0), Value.slice (z.fA 1) (m.s 1).length (z.fc 1), Value.slice (z.fA 2) (m.s 2).length (z.fc 2), Value.slice (z.fA 3) m.ad.length (z.fc 3)] rfl (blk_reads LB.out (by simp)) (by simp [Value.oneCell']) (by simp only [maxLen]; omega) (by omega) OA.out.2 ?_); (case hw => rfl); intro vb x2 ob gb ab; have JB := Lib.hid (app_kept0 (W := w9) JA.out.1 JA.out.2 OA.out.1 gb B9.size HC9.out.lt); have OB := Lib.hid ob; clear ob)
            | (go_at_call 21; (with_reducible refine (KA.out _ _ _ OB.out JB.out.1).mono ?_); rintro e x3 ⟨rfl, ha3⟩; have JC := Lib.hid (And.intro (JB.out.1.trans (ha3.mono JB.out.1.size)) (JB.out.2.later ha3)))
            | ((with_reducible refine step_append_w ?hw (.tmp 74) (.tmp 75) _ rfl x3.heap.size 30 i0 _ 12 288 Tryz.underlying37 hi0 hz0 hz1 hz2 rfl (by omega) (.slice (some ⟨x3.heap.size, 0, none⟩) 1 1) 1 [Value.slice (z.pA 0) (m.p 0).length (z.pc 0), Value.slice (z.pA 1) (m.p 1).length (z.pc 1), Value.slice (z.pA 2) (m.p 2).length (z.pc 2), Value.slice (z.pA 3) m.pn.length (z.pc 3), Value.slice (z.eA 0) (m.e 0).length (z.ec 0), Value.slice (z.eA 1) (m.e 1).length (z.ec 1), Value.slice (z.eA 2) (m.e 2).length (z.ec 2), Value.slice (z.eA 3) m.en.length (z.ec 3), Value.slice (z.fA 0) (m.s 0).length (z.fc 0), Value.slice (z.fA 1) (m.s 1).length (z.fc 1), Value.slice (z.fA 2) (m.s 2).length (z.fc 2), Value.slice (z.fA 3) m.ad.length (z.fc 3)] rfl (lit_own x3 _ (by simp)) x3.heap.size A n cap _ rfl ((chain_reads (H.out.1.later JC.out.1)).alloc (Nat.le_refl _) _) (flatC_ones _ _ _) (by simp only [maxLen]; omega) (by omega) (size_alloc_le x3 _) ?_); (case hw => rfl); intro vd x4 od gd ad; have JD := Lib.hid (pre_kept (.cells #[.slice (z.pA 0) (m.p 0).length (z.pc 0), .slice (z.pA 1) (m.p 1).length (z.pc 1), .slice (z.pA 2) (m.p 2).length (z.pc 2), .slice (z.pA 3) m.pn.length (z.pc 3), .slice (z.eA 0) (m.e 0).length (z.ec 0), .slice (z.eA 1) (m.e 1).length (z.ec 1), .slice (z.eA 2) (m.e 2).length (z.ec 2), .slice (z.eA 3) m.en.length (z.ec 3), .slice (z.fA 0) (m.s 0).length (z.fc 0), .slice (z.fA 1) (m.s 1).length (z.fc 1), .slice (z.fA 2) (m.s 2).length (z.fc 2), .slice (z.fA 3) m.ad.length (z.fc 3)] 30) JC.out.1 JC.out.2 gd); rw [Nat.add_comm 1 n] at od; have OD := Lib.hid od; clear od)
            | (go_at_call 21; (with_reducible refine (KB.out _ _ _ OD.out JD.out.1).mono ?_); rintro e x5 ⟨rfl, ha5⟩; have JE := Lib.hid (And.intro (JD.out.1.trans (ha5.mono JD.out.1.size)) (JD.out.2.later ha5))))
        all_goals go_wp2
        all_goals go_ret
        all_goals exact ⟨rfl, JE.out.1⟩
end Go.Proofs.YtblabjfjhlablaaGreatDoor
