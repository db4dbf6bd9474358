/- The walk of parseRFC2821Mailbox: a local part between quotes. Printed by gen/gen36.py. -/
import Derived.Test.YtblabjfjhlablaaGreatDoorW35
namespace Go.Proofs.YtblabjfjhlablaaGreatDoor
open Go.RowKit Nc
set_option maxRecDepth 100000 in
set_option maxHeartbeats 8000000 in
theorem parse_quote (s : ByteArray) (w : World) (hs : s.size ≤ 1000000) (hpos : 0 < s.size) (c0 : s[0].toNat = 34) : Calls Tryz.prog 112 #[.string s] w (BoxSays (parseS s) w) := by
  obtain ⟨i0, hi0, hz0, hz1, hz2⟩ := info_parts u8_info
  generalize hR : parseS s = R
  have HX := Lib.hid hR
  clear hR
  have hb0 : Below w.heap.size w (w.alloc (.cells #[.string ⟨#[]⟩, .string ⟨#[]⟩] 148)) := (Below.refl _ _).alloc (Nat.le_refl _) _
  have hr0 := Blk.new w 148 #[.string ⟨#[]⟩, .string ⟨#[]⟩]
  have hz : ((s.size : Int) == 0) = false := ib_ne (by omega)
  have HB0 := Lib.hid hb0
  have HR0 := Lib.hid hr0
  have hhead := head_list' s hpos
  clear hb0 hr0
  have hc : ((s[0].toNat : Int) == 34) = true := ib_eq (by omega)
  have hq : (pQuote (s.data.toList.drop 1) []).bind (fun x => pRest x.1 x.2) = R := by
    rw [← HX.out]; unfold parseS; rw [hhead, pBox_cons, if_pos c0]; rfl
  have HQ := Lib.hid hq
  clear hq c0 hhead
  go_enter Tryz.func112, Tryz.ntmps112
  go_upto_if 18 with (at_make; refine wpList_make_own _ rfl _ _ 43 rfl (w.heap.size + 1) 5 i0 _ 1 Tryz.underlying43 hi0 hz0 hz1 _ _ _ (s.size / 2) rfl rfl (by omega) (by rw [hz2]; omega) (by unfold maxLen; omega) (by simp) ?_; intro w1 o1 g1)
  have hb1 : Below w.heap.size w w1 := HB0.out.grown g1 HB0.out.size (by simp)
  have hr1 := HR0.out.grown g1 (by simp)
  have ho1 : w1.ownsRow (w.heap.size + 1) 5 1 (.slice (some ⟨w.heap.size + 1, 0, none⟩) 0 (s.size / 2)) 0 (([] : List UInt8).map b8) := by simpa using o1
  have HB1 := Lib.hid hb1
  have HR1 := Lib.hid hr1
  have HO1 := Lib.hid ho1
  clear hb1 hr1 ho1 o1 g1 HB0 HR0
  clear hc
  go_wp2
  go_step3
  go_wp2
  go_step3
  go_wp2
  go_loopg [0, 4] s.size (fun kx i l wx => ∃ (t : ByteArray) (n : Nat) (acc : List UInt8), i = .string t ∧ t.size ≤ s.size ∧ t.size ≤ kx ∧ n + t.size ≤ s.size ∧ n = acc.length ∧ wx.ownsRow (w.heap.size + 1) 5 1 l n (acc.map b8) ∧ Blk wx w.heap.size 148 #[.string ⟨#[]⟩, .string ⟨#[]⟩] ∧ Below w.heap.size w wx ∧ Hid ((pQuote t.data.toList acc).bind (fun x => pRest x.1 x.2) = R))
  case atStart => exact ⟨_, 0, [], rfl, by simp, by simp, by simp, rfl, HO1.out, HR1.out, HB1.out, by rw [cut1_list]; exact HQ.out⟩
  case round =>
    clear HQ HB1 HR1 HO1
    obtain ⟨t, n, acc, rfl, ht1, htk, ht2, hn, hown, hblk, hbr, hrel⟩ := hrel
    have HN := Lib.hid hn
    clear hn
    by_cases t0 : t.size = 0
    · have hzt : ((t.size : Int) == 0) = true := ib_eq (by omega)
      have hnone : R = none := by
        rw [← hrel.out, List.eq_nil_of_length_eq_zero (by simpa using t0 : t.data.toList.length = 0), pQuote_nil]; rfl
      clear t0 hrel
      have c0 := hblk.at_ 0 rfl
      have c1 := hblk.at_ 1 rfl
      have f0 := hblk.frozen 0
      have f1 := hblk.frozen 1
      have hrr := (hblk.set_ 0 (.string ⟨#[]⟩)).set_ 1 (.string ⟨#[]⟩)
      have hb4 := (hbr.setCell (p := ⟨w.heap.size, 0, none⟩) (Nat.le_refl _) (.string ⟨#[]⟩)).setCell (p := ⟨w.heap.size, 1, none⟩) (Nat.le_refl _) (.string ⟨#[]⟩)
      subst hnone
      go_wp2
      generalize (wr.setCell ⟨w.heap.size, 0, none⟩ (.string ⟨#[]⟩)).setCell ⟨w.heap.size, 1, none⟩ (.string ⟨#[]⟩) = W' at *
      clear c0 c1
      have x0 := hrr.at_ 0 rfl
      have x1 := hrr.at_ 1 rfl
      refine bodyPost_ret (v := .tuple #[.agg #[.string ⟨#[]⟩, .string ⟨#[]⟩], .bool false]) (by simp [results, Tryz.results112, go_sem, x0, x1]) rfl ⟨.inl ⟨rfl, rfl⟩, hb4⟩
    · have tp : 0 < t.size := by omega
      have hzt : ((t.size : Int) == 0) = false := ib_ne (by omega)
      have hl := head_list' t tp
      have hl1 := cut1_list t
      have hs1 : (t.extract 1 t.size).size + 1 ≤ t.size ∧ t.size ≤ (t.extract 1 t.size).size + 1 := by simp; omega
      have hr := hrel.out
      rw [hl, ← hl1] at hr
      clear hl hl1 t0 hrel
      obtain ⟨t1, ht⟩ : ∃ t1, t.extract 1 t.size = t1 := ⟨_, rfl⟩
      obtain ⟨c, hti⟩ : ∃ c, t[0] = c := ⟨_, rfl⟩
      rw [ht, hti] at hr
      rw [ht] at hs1
      obtain ⟨hs1, hs1'⟩ := hs1
      have u1 := c.toNat_lt
      by_cases c34 : c.toNat = 34
      · have hc1 : ((c.toNat : Int) == 34) = true := ib_eq (by omega)
        rw [pQuote_end c34] at hr
        have HR2 : Hid (pRest acc t1.data.toList = R) := hr
        clear hr c34
        go_wp2
        rw [Exit.noGoto_normal]
        by_cases z0 : t1.size = 0
        · have hzt : ((t1.size : Int) == 0) = true := ib_eq (by omega)
          have hnone : R = none := by
            rw [← HR2.out, List.eq_nil_of_length_eq_zero (by simpa using z0 : t1.data.toList.length = 0)]; rfl
          clear z0 HR2
          have c0 := hblk.at_ 0 rfl
          have c1 := hblk.at_ 1 rfl
          have f0 := hblk.frozen 0
          have f1 := hblk.frozen 1
          have hrr := (hblk.set_ 0 (.string ⟨#[]⟩)).set_ 1 (.string ⟨#[]⟩)
          have hb4 := (hbr.setCell (p := ⟨w.heap.size, 0, none⟩) (Nat.le_refl _) (.string ⟨#[]⟩)).setCell (p := ⟨w.heap.size, 1, none⟩) (Nat.le_refl _) (.string ⟨#[]⟩)
          subst hnone
          go_wp2
          generalize (wr.setCell ⟨w.heap.size, 0, none⟩ (.string ⟨#[]⟩)).setCell ⟨w.heap.size, 1, none⟩ (.string ⟨#[]⟩) = W' at *
          clear c0 c1
          have x0 := hrr.at_ 0 rfl
          have x1 := hrr.at_ 1 rfl
          refine bodyPost_ret (v := .tuple #[.agg #[.string ⟨#[]⟩, .string ⟨#[]⟩], .bool false]) (by simp [results, Tryz.results112, go_sem, x0, x1]) rfl ⟨.inl ⟨rfl, rfl⟩, hb4⟩
        · have tp : 0 < t1.size := by omega
          have hzt : ((t1.size : Int) == 0) = false := ib_ne (by omega)
          have hl := head_list' t1 tp
          have hl1 := cut1_list t1
          have hs1 : (t1.extract 1 t1.size).size ≤ t1.size := by simp
          have hr := HR2.out
          rw [hl, ← hl1] at hr
          obtain ⟨tz, ht⟩ : ∃ tz, t1.extract 1 t1.size = tz := ⟨_, rfl⟩
          obtain ⟨c, hti⟩ : ∃ c, t1[0] = c := ⟨_, rfl⟩
          rw [ht, hti] at hr
          rw [ht] at hs1
          clear hl hl1 HR2
          by_cases c64 : c.toNat = 64
          · have hc4 : ((c.toNat : Int) == 64) = true := ib_eq (by omega)
            have hc5 : (!((c.toNat : Int) == 64)) = false := by rw [hc4]; rfl
            have hc6 : ((c.toNat : Int) != 64) = false := hc5
            have hr2 : (if dnvL tz.data.toList && !signL tz.data.toList then some (acc, tz.data.toList) else none) = R := by
              rw [← hr, pRest_cons, if_pos c64]
            have hd : dnv tz = dnvL tz.data.toList := by
              unfold dnv dnvL
              by_cases e : tz.size = 0
              · rw [if_pos e, if_pos (List.eq_nil_of_length_eq_zero (by simpa using e))]
              · rw [if_neg e, if_neg (fun h => e (by have := congrArg List.length h; simpa using this))]
            have dv := fun W => dnv_calls tz W (by omega)
            rw [hd] at dv
            have DV := Lib.hid dv
            have SG := Lib.hid (fun W => zzContainsRune_calls tz W)
            have hsg : hasSign tz = signL tz.data.toList := rfl
            rw [hsg] at SG
            clear hr c64 hd dv hsg
            cases hdv : dnvL tz.data.toList with
            | false =>
              rw [hdv] at hr2 DV
              have hnone : R = none := by rw [← hr2]; rfl
              clear hr2 hdv SG
              go_wp2_with (fail)
              refine (DV.out _).mono ?_
              rintro e wd ⟨rfl, rfl⟩
              clear DV
              have c0 := hblk.at_ 0 rfl
              have c1 := hblk.at_ 1 rfl
              have f0 := hblk.frozen 0
              have f1 := hblk.frozen 1
              have hrr := (hblk.set_ 0 (.string ⟨#[]⟩)).set_ 1 (.string ⟨#[]⟩)
              have hb4 := (hbr.setCell (p := ⟨w.heap.size, 0, none⟩) (Nat.le_refl _) (.string ⟨#[]⟩)).setCell (p := ⟨w.heap.size, 1, none⟩) (Nat.le_refl _) (.string ⟨#[]⟩)
              subst hnone
              go_wp2
              generalize (wr.setCell ⟨w.heap.size, 0, none⟩ (.string ⟨#[]⟩)).setCell ⟨w.heap.size, 1, none⟩ (.string ⟨#[]⟩) = W' at *
              clear c0 c1
              have x0 := hrr.at_ 0 rfl
              have x1 := hrr.at_ 1 rfl
              refine bodyPost_ret (v := .tuple #[.agg #[.string ⟨#[]⟩, .string ⟨#[]⟩], .bool false]) (by simp [results, Tryz.results112, go_sem, x0, x1]) rfl ⟨.inl ⟨rfl, rfl⟩, hb4⟩
            | true =>
              rw [hdv] at hr2 DV
              clear hdv
              go_wp2_with (fail)
              refine (DV.out _).mono ?_
              rintro e wd ⟨rfl, rfl⟩
              clear DV
              go_wp2_with (fail)
              refine (SG.out _).mono ?_
              rintro e wd ⟨rfl, bd⟩
              have hblk := hblk.later bd
              have hbr2 := hbr.trans (bd.mono hbr.size)
              have hown := own_later hown bd
              clear SG bd
              cases hsg : signL tz.data.toList with
              | true =>
                rw [hsg] at hr2
                have hnone : R = none := by rw [← hr2]; rfl
                clear hr2
                have c0 := hblk.at_ 0 rfl
                have c1 := hblk.at_ 1 rfl
                have f0 := hblk.frozen 0
                have f1 := hblk.frozen 1
                have hrr := (hblk.set_ 0 (.string ⟨#[]⟩)).set_ 1 (.string ⟨#[]⟩)
                have hb4 := (hbr2.setCell (p := ⟨w.heap.size, 0, none⟩) (Nat.le_refl _) (.string ⟨#[]⟩)).setCell (p := ⟨w.heap.size, 1, none⟩) (Nat.le_refl _) (.string ⟨#[]⟩)
                subst hnone
                go_wp2
                generalize (wd.setCell ⟨w.heap.size, 0, none⟩ (.string ⟨#[]⟩)).setCell ⟨w.heap.size, 1, none⟩ (.string ⟨#[]⟩) = W' at *
                clear c0 c1
                have x0 := hrr.at_ 0 rfl
                have x1 := hrr.at_ 1 rfl
                refine bodyPost_ret (v := .tuple #[.agg #[.string ⟨#[]⟩, .string ⟨#[]⟩], .bool false]) (by simp [results, Tryz.results112, go_sem, x0, x1]) rfl ⟨.inl ⟨rfl, rfl⟩, hb4⟩
              | false =>
                rw [hsg] at hr2
                have hsome : R = some (acc, tz.data.toList) := by rw [← hr2]; rfl
                subst hsome
                have hcv := conv_own hown HN.out
                clear hr2
                have c0 := hblk.at_ 0 rfl
                have c1 := hblk.at_ 1 rfl
                have f0 := hblk.frozen 0
                have f1 := hblk.frozen 1
                have hrr := (((hblk.set_ 0 (.string ⟨acc.toArray⟩)).set_ 1 (.string tz)).set_ 0 (.string ⟨acc.toArray⟩)).set_ 1 (.string tz)
                have hb4 := (((hbr2.setCell (p := ⟨w.heap.size, 0, none⟩) (Nat.le_refl _) (.string ⟨acc.toArray⟩)).setCell (p := ⟨w.heap.size, 1, none⟩) (Nat.le_refl _) (.string tz)).setCell (p := ⟨w.heap.size, 0, none⟩) (Nat.le_refl _) (.string ⟨acc.toArray⟩)).setCell (p := ⟨w.heap.size, 1, none⟩) (Nat.le_refl _) (.string tz)
                go_wp2
                generalize (((wd.setCell ⟨w.heap.size, 0, none⟩ (.string ⟨acc.toArray⟩)).setCell ⟨w.heap.size, 1, none⟩ (.string tz)).setCell ⟨w.heap.size, 0, none⟩ (.string ⟨acc.toArray⟩)).setCell ⟨w.heap.size, 1, none⟩ (.string tz) = W' at *
                clear c0 c1
                have x0 := hrr.at_ 0 rfl
                have x1 := hrr.at_ 1 rfl
                refine bodyPost_ret (v := .tuple #[.agg #[.string ⟨acc.toArray⟩, .string tz], .bool true]) (by simp [results, Tryz.results112, go_sem, x0, x1]) rfl ⟨.inr ⟨_, _, rfl, by rw [ba_eta]⟩, hb4⟩
          · have hc4 : ((c.toNat : Int) == 64) = false := ib_ne (by omega)
            have hc5 : (!((c.toNat : Int) == 64)) = true := by rw [hc4]; rfl
            have hc6 : ((c.toNat : Int) != 64) = true := hc5
            have hnone : R = none := by
              rw [← hr, pRest_cons, if_neg c64]
            clear hr c64
            have c0 := hblk.at_ 0 rfl
            have c1 := hblk.at_ 1 rfl
            have f0 := hblk.frozen 0
            have f1 := hblk.frozen 1
            have hrr := (hblk.set_ 0 (.string ⟨#[]⟩)).set_ 1 (.string ⟨#[]⟩)
            have hb4 := (hbr.setCell (p := ⟨w.heap.size, 0, none⟩) (Nat.le_refl _) (.string ⟨#[]⟩)).setCell (p := ⟨w.heap.size, 1, none⟩) (Nat.le_refl _) (.string ⟨#[]⟩)
            subst hnone
            go_wp2
            generalize (wr.setCell ⟨w.heap.size, 0, none⟩ (.string ⟨#[]⟩)).setCell ⟨w.heap.size, 1, none⟩ (.string ⟨#[]⟩) = W' at *
            clear c0 c1
            have x0 := hrr.at_ 0 rfl
            have x1 := hrr.at_ 1 rfl
            refine bodyPost_ret (v := .tuple #[.agg #[.string ⟨#[]⟩, .string ⟨#[]⟩], .bool false]) (by simp [results, Tryz.results112, go_sem, x0, x1]) rfl ⟨.inl ⟨rfl, rfl⟩, hb4⟩
      · have hc1 : ((c.toNat : Int) == 34) = false := ib_ne (by omega)
        by_cases c92 : c.toNat = 92
        · have hc2 : ((c.toNat : Int) == 92) = true := ib_eq (by omega)
          by_cases t10 : t1.size = 0
          · have hz3 : ((t1.size : Int) == 0) = true := ib_eq (by omega)
            have hnone : R = none := by
              rw [← hr, List.eq_nil_of_length_eq_zero (by simpa using t10 : t1.data.toList.length = 0), pQuote_pair0 c92]; rfl
            clear t10 hr c34 c92
            have c0 := hblk.at_ 0 rfl
            have c1 := hblk.at_ 1 rfl
            have f0 := hblk.frozen 0
            have f1 := hblk.frozen 1
            have hrr := (hblk.set_ 0 (.string ⟨#[]⟩)).set_ 1 (.string ⟨#[]⟩)
            have hb4 := (hbr.setCell (p := ⟨w.heap.size, 0, none⟩) (Nat.le_refl _) (.string ⟨#[]⟩)).setCell (p := ⟨w.heap.size, 1, none⟩) (Nat.le_refl _) (.string ⟨#[]⟩)
            subst hnone
            go_wp2
            generalize (wr.setCell ⟨w.heap.size, 0, none⟩ (.string ⟨#[]⟩)).setCell ⟨w.heap.size, 1, none⟩ (.string ⟨#[]⟩) = W' at *
            clear c0 c1
            have x0 := hrr.at_ 0 rfl
            have x1 := hrr.at_ 1 rfl
            refine bodyPost_ret (v := .tuple #[.agg #[.string ⟨#[]⟩, .string ⟨#[]⟩], .bool false]) (by simp [results, Tryz.results112, go_sem, x0, x1]) rfl ⟨.inl ⟨rfl, rfl⟩, hb4⟩
          · have tp1 : 0 < t1.size := by omega
            have hz3 : ((t1.size : Int) == 0) = false := ib_ne (by omega)
            have hl := head_list' t1 tp1
            have hl1 := cut1_list t1
            have hs2 : (t1.extract 1 t1.size).size + 1 ≤ t1.size ∧ t1.size ≤ (t1.extract 1 t1.size).size + 1 := by simp; omega
            rw [hl, ← hl1, pQuote_pair c92] at hr
            obtain ⟨t2, ht2'⟩ : ∃ t2, t1.extract 1 t1.size = t2 := ⟨_, rfl⟩
            obtain ⟨d, hti2⟩ : ∃ d, t1[0] = d := ⟨_, rfl⟩
            rw [ht2', hti2] at hr
            rw [ht2'] at hs2
            obtain ⟨hs2, hs2'⟩ := hs2
            have u2 := d.toNat_lt
            clear hl hl1 c34 t10
            obtain ⟨wz, hwz⟩ : ∃ wz, wz = wr := ⟨_, rfl⟩
            have HRR := Lib.hid hr
            clear hr
            go_upto_region 15 with (fail)
            go_cut [67] (fun b wx => b = .bool (qpair d) ∧ wx = wz)
            case first =>
              subst hwz
              clear c92 HRR hown hblk hbr
              cases hqp : qpair d with
              | true =>
                rcases qpair_cases hqp with q | q | q | q
                · obtain ⟨e11, q1, q2⟩ := byf0 q
                  have HQP := Lib.hid hqp
                  clear q hqp 
                  go_wp2
                  go_meet
                  case rel => exact ⟨by go_light; rw [HQP.out]; try (congr 1; simp <;> omega), rfl⟩
                · obtain ⟨e11, e12, q1, q2⟩ := byf1 q
                  have HQP := Lib.hid hqp
                  clear q hqp 
                  go_wp2
                  go_meet
                  case rel => exact ⟨by go_light; rw [HQP.out]; try (congr 1; simp <;> omega), rfl⟩
                · obtain ⟨e11, e12, q1, q2⟩ := byf2 q
                  have HQP := Lib.hid hqp
                  clear q hqp 
                  go_wp2
                  go_meet
                  case rel => exact ⟨by go_light; rw [HQP.out]; try (congr 1; simp <;> omega), rfl⟩
                · obtain ⟨e11, e12, q1, q2⟩ := byf3 q
                  have HQP := Lib.hid hqp
                  clear q hqp 
                  go_wp2
                  go_meet
                  case rel => exact ⟨by go_light; rw [HQP.out]; try (congr 1; simp <;> omega), rfl⟩
              | false =>
                rcases qpair_not hqp with q | q | q | q
                · obtain ⟨e11, e12, q1, q2⟩ := byf4 q
                  have HQP := Lib.hid hqp
                  clear q hqp 
                  go_wp2
                  go_meet
                  case rel => exact ⟨by go_light; rw [HQP.out]; try (congr 1; simp <;> omega), rfl⟩
                · obtain ⟨e11, e12, q1, q2⟩ := byf5 q
                  have HQP := Lib.hid hqp
                  clear q hqp 
                  go_wp2
                  go_meet
                  case rel => exact ⟨by go_light; rw [HQP.out]; try (congr 1; simp <;> omega), rfl⟩
                · obtain ⟨e11, e12, q1, q2⟩ := byf6 q
                  have HQP := Lib.hid hqp
                  clear q hqp 
                  go_wp2
                  go_meet
                  case rel => exact ⟨by go_light; rw [HQP.out]; try (congr 1; simp <;> omega), rfl⟩
                · obtain ⟨e11, e12, q1⟩ := byf7 q
                  have HQP := Lib.hid hqp
                  clear q hqp 
                  go_wp2
                  go_meet
                  case rel => exact ⟨by go_light; rw [HQP.out]; try (congr 1; simp <;> omega), rfl⟩
            case rest =>
              obtain ⟨rfl, rfl⟩ := hcut
              subst hwz
              have hr := HRR.out
              cases hqp : qpair d with
              | true =>
                rw [hqp, if_pos rfl] at hr
                have HR2 := Lib.hid hr
                clear hr c92 hqp HRR
                have hb2 := hbr.alloc hbr.size (.cells #[.int .u8 (d.toNat : Int)] 5)
                have hown2 := hown.alloc (.cells #[.int .u8 (d.toNat : Int)] 5)
                have hr2 := hblk.alloc (.cells #[.int .u8 (d.toNat : Int)] 5)
                have hrd := one_rd wc 5 (.int .u8 (d.toNat : Int))
                have hsz2 : w.heap.size + 1 ≤ (wc.alloc (.cells #[.int .u8 (d.toNat : Int)] 5)).heap.size := by have := hbr.size; rw [World.size_alloc]; omega
                go_wp2_with (first
                  | (at_builtin
                     refine wpList_append_any _ rfl _ (.tmp 71) _ rfl (w.heap.size + 1) 5 i0 _ 1 1 Tryz.underlying43 hi0 hz0 hz1 hz2 rfl (by omega) u4 n _ rfl hown2 (wc.heap.size + 1) (some ⟨wc.heap.size, 0, none⟩) 1 1 _ rfl hrd (by simp [Value.oneCell']) (by simp only [maxLen]; omega) (by omega) hsz2 ?_
                     intro v1 w2 hown3 hg3 hat3))
                have hb3 : Below w.heap.size w w2 := hb2.grown hg3 hb2.size (fun q hq => by have := (hown2.lt q hq).1; omega)
                have hr3 := hr2.grown hg3 (fun e => by have := (hown2.lt _ e.symm).1; omega)
                have hown4 : w2.ownsRow (w.heap.size + 1) 5 1 v1 (n + 1) ((acc ++ [d]).map b8) := by rw [← snoc_b8]; exact hown3
                clear hown3 hg3 hat3 hown2 hrd hsz2 hb2 hr2 hbr hown hblk
                go_wp2
                go_roundg t2.size
                case measure => omega
                case rel => exact ⟨t2, n + 1, acc ++ [d], rfl, by omega, Nat.le_refl _, by omega, by simp [HN.out], hown4, hr3, hb3, HR2.out⟩
              | false =>
                rw [hqp, if_neg (by decide)] at hr
                have hnone : R = none := hr.symm
                clear hr c92 hqp HRR
                have c0 := hblk.at_ 0 rfl
                have c1 := hblk.at_ 1 rfl
                have f0 := hblk.frozen 0
                have f1 := hblk.frozen 1
                have hrr := (hblk.set_ 0 (.string ⟨#[]⟩)).set_ 1 (.string ⟨#[]⟩)
                have hb4 := (hbr.setCell (p := ⟨w.heap.size, 0, none⟩) (Nat.le_refl _) (.string ⟨#[]⟩)).setCell (p := ⟨w.heap.size, 1, none⟩) (Nat.le_refl _) (.string ⟨#[]⟩)
                subst hnone
                go_wp2
                generalize (wc.setCell ⟨w.heap.size, 0, none⟩ (.string ⟨#[]⟩)).setCell ⟨w.heap.size, 1, none⟩ (.string ⟨#[]⟩) = W' at *
                clear c0 c1
                have x0 := hrr.at_ 0 rfl
                have x1 := hrr.at_ 1 rfl
                refine bodyPost_ret (v := .tuple #[.agg #[.string ⟨#[]⟩, .string ⟨#[]⟩], .bool false]) (by simp [results, Tryz.results112, go_sem, x0, x1]) rfl ⟨.inl ⟨rfl, rfl⟩, hb4⟩
        · have hc2 : ((c.toNat : Int) == 92) = false := ib_ne (by omega)
          rw [pQuote_text c34 c92] at hr
          obtain ⟨wz, hwz⟩ : ∃ wz, wz = wr := ⟨_, rfl⟩
          have HRR := Lib.hid hr
          clear hr
          go_upto_region 19 with (fail)
          go_cut [76] (fun b wx => b = .bool (qtext c) ∧ wx = wz)
          case first =>
            subst hwz
            clear HRR hown hblk hbr
            cases hqp : qtext c with
            | true =>
              rcases qtext_cases hqp with q | q | q | q | q | q | q | q | q
              · obtain ⟨e11, q1, q2⟩ := byf8 q
                have HQP := Lib.hid hqp
                clear q hqp c34 c92
                go_wp2
                go_meet
                case rel => exact ⟨by go_light; rw [HQP.out]; try (congr 1; simp <;> omega), rfl⟩
              · obtain ⟨e11, e12, q1, q2⟩ := byf9 q
                have HQP := Lib.hid hqp
                clear q hqp c34 c92
                go_wp2
                go_meet
                case rel => exact ⟨by go_light; rw [HQP.out]; try (congr 1; simp <;> omega), rfl⟩
              · obtain ⟨e11, e12, e32, q1, q2⟩ := byf10 q
                have HQP := Lib.hid hqp
                clear q hqp c34 c92
                go_wp2
                go_meet
                case rel => exact ⟨by go_light; rw [HQP.out]; try (congr 1; simp <;> omega), rfl⟩
              · obtain ⟨e11, e12, e32, e33, q1, q2⟩ := byf11 q
                have HQP := Lib.hid hqp
                clear q hqp c34 c92
                go_wp2
                go_meet
                case rel => exact ⟨by go_light; rw [HQP.out]; try (congr 1; simp <;> omega), rfl⟩
              · obtain ⟨e11, e12, e32, e33, e127, q1, q2⟩ := byf12 q
                have HQP := Lib.hid hqp
                clear q hqp c34 c92
                go_wp2
                go_meet
                case rel => exact ⟨by go_light; rw [HQP.out]; try (congr 1; simp <;> omega), rfl⟩
              · obtain ⟨e11, e12, e32, e33, e127, q1, q2⟩ := byf13 q
                have HQP := Lib.hid hqp
                clear q hqp c34 c92
                go_wp2
                go_meet
                case rel => exact ⟨by go_light; rw [HQP.out]; try (congr 1; simp <;> omega), rfl⟩
              · obtain ⟨e11, e12, e32, e33, e127, q1, q2⟩ := byf14 q
                have HQP := Lib.hid hqp
                clear q hqp c34 c92
                go_wp2
                go_meet
                case rel => exact ⟨by go_light; rw [HQP.out]; try (congr 1; simp <;> omega), rfl⟩
              · obtain ⟨e11, e12, e32, e33, e127, q1, q2⟩ := byf15 q
                have HQP := Lib.hid hqp
                clear q hqp c34 c92
                go_wp2
                go_meet
                case rel => exact ⟨by go_light; rw [HQP.out]; try (congr 1; simp <;> omega), rfl⟩
              · obtain ⟨e11, e12, e32, e33, e127, q1, q2⟩ := byf16 q
                have HQP := Lib.hid hqp
                clear q hqp c34 c92
                go_wp2
                go_meet
                case rel => exact ⟨by go_light; rw [HQP.out]; try (congr 1; simp <;> omega), rfl⟩
            | false =>
              rcases qtext_not hqp c34 c92 with q | q | q | q | q
              · obtain ⟨e11, e12, e32, e33, e127, q1, q2⟩ := byf17 q
                have HQP := Lib.hid hqp
                clear q hqp c34 c92
                go_wp2
                go_meet
                case rel => exact ⟨by go_light; rw [HQP.out]; try (congr 1; simp <;> omega), rfl⟩
              · obtain ⟨e11, e12, e32, e33, e127, q1, q2⟩ := byf18 q
                have HQP := Lib.hid hqp
                clear q hqp c34 c92
                go_wp2
                go_meet
                case rel => exact ⟨by go_light; rw [HQP.out]; try (congr 1; simp <;> omega), rfl⟩
              · obtain ⟨e11, e12, e32, e33, e127, q1, q2⟩ := byf19 q
                have HQP := Lib.hid hqp
                clear q hqp c34 c92
                go_wp2
                go_meet
                case rel => exact ⟨by go_light; rw [HQP.out]; try (congr 1; simp <;> omega), rfl⟩
              · obtain ⟨e11, e12, e32, e33, e127, q1, q2⟩ := byf20 q
                have HQP := Lib.hid hqp
                clear q hqp c34 c92
                go_wp2
                go_meet
                case rel => exact ⟨by go_light; rw [HQP.out]; try (congr 1; simp <;> omega), rfl⟩
              · obtain ⟨e11, e12, e32, e33, e127, q1⟩ := byf21 q
                have HQP := Lib.hid hqp
                clear q hqp c34 c92
                go_wp2
                go_meet
                case rel => exact ⟨by go_light; rw [HQP.out]; try (congr 1; simp <;> omega), rfl⟩
          case rest =>
            obtain ⟨rfl, rfl⟩ := hcut
            subst hwz
            have hr := HRR.out
            cases hqp : qtext c with
            | true =>
              rw [hqp, if_pos rfl] at hr
              have HR2 := Lib.hid hr
              clear hr c92 c34 hqp HRR
              have hb2 := hbr.alloc hbr.size (.cells #[.int .u8 (c.toNat : Int)] 5)
              have hown2 := hown.alloc (.cells #[.int .u8 (c.toNat : Int)] 5)
              have hr2 := hblk.alloc (.cells #[.int .u8 (c.toNat : Int)] 5)
              have hrd := one_rd wc 5 (.int .u8 (c.toNat : Int))
              have hsz2 : w.heap.size + 1 ≤ (wc.alloc (.cells #[.int .u8 (c.toNat : Int)] 5)).heap.size := by have := hbr.size; rw [World.size_alloc]; omega
              go_wp2_with (first
                | (at_builtin
                   refine wpList_append_any _ rfl _ (.tmp 129) _ rfl (w.heap.size + 1) 5 i0 _ 1 1 Tryz.underlying43 hi0 hz0 hz1 hz2 rfl (by omega) u4 n _ rfl hown2 (wc.heap.size + 1) (some ⟨wc.heap.size, 0, none⟩) 1 1 _ rfl hrd (by simp [Value.oneCell']) (by simp only [maxLen]; omega) (by omega) hsz2 ?_
                   intro v1 w2 hown3 hg3 hat3))
              have hb3 : Below w.heap.size w w2 := hb2.grown hg3 hb2.size (fun q hq => by have := (hown2.lt q hq).1; omega)
              have hr3 := hr2.grown hg3 (fun e => by have := (hown2.lt _ e.symm).1; omega)
              have hown4 : w2.ownsRow (w.heap.size + 1) 5 1 v1 (n + 1) ((acc ++ [c]).map b8) := by rw [← snoc_b8]; exact hown3
              clear hown3 hg3 hat3 hown2 hrd hsz2 hb2 hr2 hbr hown hblk
              go_wp2
              go_roundg t1.size
              case measure => omega
              case rel => exact ⟨t1, n + 1, acc ++ [c], rfl, by omega, Nat.le_refl _, by omega, by simp [HN.out], hown4, hr3, hb3, HR2.out⟩
            | false =>
              rw [hqp, if_neg (by decide)] at hr
              have hnone : R = none := hr.symm
              clear hr c92 c34 hqp HRR
              have c0 := hblk.at_ 0 rfl
              have c1 := hblk.at_ 1 rfl
              have f0 := hblk.frozen 0
              have f1 := hblk.frozen 1
              have hrr := (hblk.set_ 0 (.string ⟨#[]⟩)).set_ 1 (.string ⟨#[]⟩)
              have hb4 := (hbr.setCell (p := ⟨w.heap.size, 0, none⟩) (Nat.le_refl _) (.string ⟨#[]⟩)).setCell (p := ⟨w.heap.size, 1, none⟩) (Nat.le_refl _) (.string ⟨#[]⟩)
              subst hnone
              go_wp2
              generalize (wc.setCell ⟨w.heap.size, 0, none⟩ (.string ⟨#[]⟩)).setCell ⟨w.heap.size, 1, none⟩ (.string ⟨#[]⟩) = W' at *
              clear c0 c1
              have x0 := hrr.at_ 0 rfl
              have x1 := hrr.at_ 1 rfl
              refine bodyPost_ret (v := .tuple #[.agg #[.string ⟨#[]⟩, .string ⟨#[]⟩], .bool false]) (by simp [results, Tryz.results112, go_sem, x0, x1]) rfl ⟨.inl ⟨rfl, rfl⟩, hb4⟩
end Go.Proofs.YtblabjfjhlablaaGreatDoor
