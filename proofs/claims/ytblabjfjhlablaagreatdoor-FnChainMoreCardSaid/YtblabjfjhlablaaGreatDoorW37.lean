/- The walk of parseRFC2821Mailbox: a local part of atoms. Printed by gen/gen36.py. -/
import Derived.Test.YtblabjfjhlablaaGreatDoorW35
import Derived.Test.YtblabjfjhlablaaGreatDoorGr
namespace Go.Proofs.YtblabjfjhlablaaGreatDoor
open Go.RowKit Nc
theorem atB_int (c : UInt8) : (((((((((((((((((((((((decide ((48 : Int) ≤ (c.toNat : Int)) && decide ((c.toNat : Int) ≤ 57)) || (decide ((97 : Int) ≤ (c.toNat : Int)) && decide ((c.toNat : Int) ≤ 122))) || (decide ((65 : Int) ≤ (c.toNat : Int)) && decide ((c.toNat : Int) ≤ 90))) || (c.toNat : Int) == 33) || (c.toNat : Int) == 35) || (c.toNat : Int) == 36) || (c.toNat : Int) == 37) || (c.toNat : Int) == 38) || (c.toNat : Int) == 39) || (c.toNat : Int) == 42) || (c.toNat : Int) == 43) || (c.toNat : Int) == 45) || (c.toNat : Int) == 47) || (c.toNat : Int) == 61) || (c.toNat : Int) == 63) || (c.toNat : Int) == 94) || (c.toNat : Int) == 95) || (c.toNat : Int) == 96) || (c.toNat : Int) == 123) || (c.toNat : Int) == 124) || (c.toNat : Int) == 125) || (c.toNat : Int) == 126) || (c.toNat : Int) == 46) = atB c := by
  revert c
  exact forall_u8 _ (by decide +kernel)
set_option maxRecDepth 100000 in
set_option maxHeartbeats 4000000 in
theorem parse_atom (s : ByteArray) (w : World) (hs : s.size ≤ 1000000) (hpos : 0 < s.size) (c0 : ¬ s[0].toNat = 34) : Calls Tryz.prog 112 #[.string s] w (BoxSays (parseS s) w) := by
  obtain ⟨i0, hi0, hz0, hz1, hz2⟩ := info_parts u8_info
  generalize hR : parseS s = R
  have HX := Lib.hid hR
  clear hR
  have hb0 : Below w.heap.size w (w.alloc (.cells #[.string ⟨#[]⟩, .string ⟨#[]⟩] 148)) := (Below.refl _ _).alloc (Nat.le_refl _) _
  have hr0 := Blk.new w 148 #[.string ⟨#[]⟩, .string ⟨#[]⟩]
  have hz : ((s.size : Int) == 0) = false := ib_ne (by omega)
  have HB0 := Lib.hid hb0
  have HR0 := Lib.hid hr0
  have hhead := head_list' s hpos
  clear hb0 hr0
  have hc : ((s[0].toNat : Int) == 34) = false := ib_ne (by omega)
  have hq : (pAtom s.data.toList []).bind (fun x => pAtoms x.1 x.2) = R := by
    rw [← HX.out]; unfold parseS; rw [hhead, pBox_cons, if_neg c0]
  have HQ := Lib.hid hq
  clear hq c0 hhead
  go_enter Tryz.func112, Tryz.ntmps112
  go_upto_if 18 with (at_make; refine wpList_make_own _ rfl _ _ 43 rfl (w.heap.size + 1) 5 i0 _ 1 Tryz.underlying43 hi0 hz0 hz1 _ _ _ (s.size / 2) rfl rfl (by omega) (by rw [hz2]; omega) (by unfold maxLen; omega) (by simp) ?_; intro w1 o1 g1)
  have hb1 : Below w.heap.size w w1 := HB0.out.grown g1 HB0.out.size (by simp)
  have hr1 := HR0.out.grown g1 (by simp)
  have ho1 : w1.ownsRow (w.heap.size + 1) 5 1 (.slice (some ⟨w.heap.size + 1, 0, none⟩) 0 (s.size / 2)) 0 (([] : List UInt8).map b8) := by simpa using o1
  have HB1 := Lib.hid hb1
  have HR1 := Lib.hid hr1
  have HO1 := Lib.hid ho1
  clear hb1 hr1 ho1 o1 g1 HB0 HR0
  clear hc
  go_wp2
  go_step3
  go_upto_block 3 with (fail)
  go_step3
  go_upto_block 3 with (fail)
  go_cut [0, 4] (fun i l wx => ∃ (t : ByteArray) (n : Nat) (acc : List UInt8), i = .string t ∧ t.size ≤ s.size ∧ n + t.size ≤ s.size ∧ n = acc.length ∧ wx.ownsRow (w.heap.size + 1) 5 1 l n (acc.map b8) ∧ Blk wx w.heap.size 148 #[.string ⟨#[]⟩, .string ⟨#[]⟩] ∧ Below w.heap.size w wx ∧ Hid (pAtoms acc t.data.toList = R))
  case first =>
    go_wp2
    go_loopg [0, 4] s.size (fun kx i l wx => ∃ (t : ByteArray) (n : Nat) (acc : List UInt8), i = .string t ∧ t.size ≤ s.size ∧ t.size ≤ kx ∧ n + t.size ≤ s.size ∧ n = acc.length ∧ wx.ownsRow (w.heap.size + 1) 5 1 l n (acc.map b8) ∧ Blk wx w.heap.size 148 #[.string ⟨#[]⟩, .string ⟨#[]⟩] ∧ Below w.heap.size w wx ∧ Hid ((pAtom t.data.toList acc).bind (fun x => pAtoms x.1 x.2) = R))
    case atStart => exact ⟨_, 0, [], rfl, by simp, by simp, by simp, rfl, HO1.out, HR1.out, HB1.out, HQ.out⟩
    case round =>
      clear HQ HB1 HR1 HO1
      obtain ⟨t, n, acc, rfl, ht1, htk, ht2, hn, hown, hblk, hbr, hrel⟩ := hrel
      have HN := Lib.hid hn
      clear hn
      by_cases t0 : t.size = 0
      · have hzt : ¬ (0 : Int) < (t.size : Int) := by omega
        have hr := hrel.out
        rw [List.eq_nil_of_length_eq_zero (by simpa using t0 : t.data.toList.length = 0), pAtom_nil] at hr
        have HR2 : Hid (pAtoms acc t.data.toList = R) := by
          rw [List.eq_nil_of_length_eq_zero (by simpa using t0 : t.data.toList.length = 0)]; exact hr
        clear t0 hrel hr
        go_wp2
        go_meet
        case rel => exact ⟨t, n, acc, rfl, ht1, ht2, HN.out, hown, hblk, hbr, HR2⟩
      · have tp : 0 < t.size := by omega
        have hl := head_list' t tp
        have hl1 := cut1_list t
        have hs1 : (t.extract 1 t.size).size + 1 ≤ t.size ∧ t.size ≤ (t.extract 1 t.size).size + 1 := by simp; omega
        have hr := hrel.out
        rw [hl, ← hl1] at hr
        clear hl1 t0 hrel
        obtain ⟨t1, ht⟩ : ∃ t1, t.extract 1 t.size = t1 := ⟨_, rfl⟩
        obtain ⟨c, hti⟩ : ∃ c, t[0] = c := ⟨_, rfl⟩
        rw [ht, hti] at hr
        rw [ht] at hs1
        obtain ⟨hs1, hs1'⟩ := hs1
        have u1 := c.toNat_lt
        by_cases c92 : c.toNat = 92
        · have hc2 : ((c.toNat : Int) == 92) = true := ib_eq (by omega)
          by_cases t10 : t1.size = 0
          · have hz3 : ((t1.size : Int) == 0) = true := ib_eq (by omega)
            have hnone : R = none := by
              rw [← hr, List.eq_nil_of_length_eq_zero (by simpa using t10 : t1.data.toList.length = 0), pAtom_pair0 c92]; rfl
            clear t10 hr c92 hl
            have c0 := hblk.at_ 0 rfl
            have c1 := hblk.at_ 1 rfl
            have f0 := hblk.frozen 0
            have f1 := hblk.frozen 1
            have hrr := (hblk.set_ 0 (.string ⟨#[]⟩)).set_ 1 (.string ⟨#[]⟩)
            have hb4 := (hbr.setCell (p := ⟨w.heap.size, 0, none⟩) (Nat.le_refl _) (.string ⟨#[]⟩)).setCell (p := ⟨w.heap.size, 1, none⟩) (Nat.le_refl _) (.string ⟨#[]⟩)
            subst hnone
            go_wp2
            generalize (wr.setCell ⟨w.heap.size, 0, none⟩ (.string ⟨#[]⟩)).setCell ⟨w.heap.size, 1, none⟩ (.string ⟨#[]⟩) = W' at *
            clear c0 c1
            have x0 := hrr.at_ 0 rfl
            have x1 := hrr.at_ 1 rfl
            refine bodyPost_ret (v := .tuple #[.agg #[.string ⟨#[]⟩, .string ⟨#[]⟩], .bool false]) (by simp [results, Tryz.results112, go_sem, x0, x1]) rfl ⟨.inl ⟨rfl, rfl⟩, hb4⟩
          · have tp1 : 0 < t1.size := by omega
            have hz3 : ((t1.size : Int) == 0) = false := ib_ne (by omega)
            have hl0 := head_list' t1 tp1
            have hl1 := cut1_list t1
            have hs2 : (t1.extract 1 t1.size).size + 1 ≤ t1.size ∧ t1.size ≤ (t1.extract 1 t1.size).size + 1 := by simp; omega
            rw [hl0, ← hl1, pAtom_pair c92] at hr
            obtain ⟨t2, ht2'⟩ : ∃ t2, t1.extract 1 t1.size = t2 := ⟨_, rfl⟩
            obtain ⟨d, hti2⟩ : ∃ d, t1[0] = d := ⟨_, rfl⟩
            rw [ht2', hti2] at hr
            rw [ht2'] at hs2
            obtain ⟨hs2, hs2'⟩ := hs2
            have u2 := d.toNat_lt
            have HR2 := Lib.hid hr
            clear hl hl0 hl1 t10 hr c92
            have hb2 := hbr.alloc hbr.size (.cells #[.int .u8 (d.toNat : Int)] 5)
            have hown2 := hown.alloc (.cells #[.int .u8 (d.toNat : Int)] 5)
            have hr2 := hblk.alloc (.cells #[.int .u8 (d.toNat : Int)] 5)
            have hrd := one_rd wr 5 (.int .u8 (d.toNat : Int))
            have hsz2 : w.heap.size + 1 ≤ (wr.alloc (.cells #[.int .u8 (d.toNat : Int)] 5)).heap.size := by have := hbr.size; rw [World.size_alloc]; omega
            go_wp2_with (first
              | (at_builtin
                 refine wpList_append_any _ rfl _ (.tmp 251) _ rfl (w.heap.size + 1) 5 i0 _ 1 1 Tryz.underlying43 hi0 hz0 hz1 hz2 rfl (by omega) u4 n _ rfl hown2 (wr.heap.size + 1) (some ⟨wr.heap.size, 0, none⟩) 1 1 _ rfl hrd (by simp [Value.oneCell']) (by simp only [maxLen]; omega) (by omega) hsz2 ?_
                 intro v1 w2 hown3 hg3 hat3))
            have hb3 : Below w.heap.size w w2 := hb2.grown hg3 hb2.size (fun q hq => by have := (hown2.lt q hq).1; omega)
            have hr3 := hr2.grown hg3 (fun e => by have := (hown2.lt _ e.symm).1; omega)
            have hown4 : w2.ownsRow (w.heap.size + 1) 5 1 v1 (n + 1) ((acc ++ [d]).map b8) := by rw [← snoc_b8]; exact hown3
            clear hown3 hg3 hat3 hown2 hrd hsz2 hb2 hr2 hbr hown hblk
            go_wp2
            go_roundg t2.size
            case measure => omega
            case rel => exact ⟨t2, n + 1, acc ++ [d], rfl, by omega, Nat.le_refl _, by omega, by simp [HN.out], hown4, hr3, hb3, HR2.out⟩
        · have hc2 : ((c.toNat : Int) == 92) = false := ib_ne (by omega)
          rw [pAtom_at c92] at hr
          obtain ⟨wz, hwz⟩ : ∃ wz, wz = wr := ⟨_, rfl⟩
          have HRR := Lib.hid hr
          have HL := Lib.hid hl
          clear hr hl
          go_upto_region 24 with (fail)
          simp only [List.append_eq, List.cons_append, List.nil_append]
          go_cut [139] (fun b wx => b = .bool (atB c) ∧ wx = wz)
          case first =>
            subst hwz
            clear HRR HL hown hblk hbr c92 hc2
            refine wp_region_lit ?_
            refine fst_rng 140 2 (c.toNat : Int) 48 57 rfl rfl rfl rfl rfl rfl rfl rfl rfl rfl rfl rfl rfl rfl rfl rfl rfl rfl rfl rfl rfl rfl rfl (Nat.lt_of_lt_of_eq (by decide : 146 < 305) rfl) (by decide) ?_
            intro y140 y141 y142 y143 y144
            simp only [Act.put, List.setIfInBounds_toArray, List.set_cons_zero, List.set_cons_succ]
            refine or_rng 147 146 6 9 _ (c.toNat : Int) 97 122 rfl rfl rfl rfl rfl rfl rfl rfl rfl rfl rfl rfl rfl rfl rfl rfl rfl rfl rfl rfl rfl rfl rfl rfl rfl rfl rfl rfl (Nat.lt_of_lt_of_eq (by decide : 154 < 305) rfl) (by decide) (by decide) ?_
            intro y147 y148 y149 y150 y151 y152
            simp only [Act.put, List.setIfInBounds_toArray, List.set_cons_zero, List.set_cons_succ]
            refine or_rng 155 154 14 17 _ (c.toNat : Int) 65 90 rfl rfl rfl rfl rfl rfl rfl rfl rfl rfl rfl rfl rfl rfl rfl rfl rfl rfl rfl rfl rfl rfl rfl rfl rfl rfl rfl rfl (Nat.lt_of_lt_of_eq (by decide : 162 < 305) rfl) (by decide) (by decide) ?_
            intro y155 y156 y157 y158 y159 y160
            simp only [Act.put, List.setIfInBounds_toArray, List.set_cons_zero, List.set_cons_succ]
            refine or_eq 163 162 22 _ (c.toNat : Int) 33 rfl rfl rfl rfl rfl rfl rfl rfl rfl rfl rfl rfl rfl rfl rfl (Nat.lt_of_lt_of_eq (by decide : 166 < 305) rfl) (by decide) ?_
            intro y163 y164
            simp only [Act.put, List.setIfInBounds_toArray, List.set_cons_zero, List.set_cons_succ]
            refine or_eq 167 166 26 _ (c.toNat : Int) 35 rfl rfl rfl rfl rfl rfl rfl rfl rfl rfl rfl rfl rfl rfl rfl (Nat.lt_of_lt_of_eq (by decide : 170 < 305) rfl) (by decide) ?_
            intro y167 y168
            simp only [Act.put, List.setIfInBounds_toArray, List.set_cons_zero, List.set_cons_succ]
            refine or_eq 171 170 30 _ (c.toNat : Int) 36 rfl rfl rfl rfl rfl rfl rfl rfl rfl rfl rfl rfl rfl rfl rfl (Nat.lt_of_lt_of_eq (by decide : 174 < 305) rfl) (by decide) ?_
            intro y171 y172
            simp only [Act.put, List.setIfInBounds_toArray, List.set_cons_zero, List.set_cons_succ]
            refine or_eq 175 174 34 _ (c.toNat : Int) 37 rfl rfl rfl rfl rfl rfl rfl rfl rfl rfl rfl rfl rfl rfl rfl (Nat.lt_of_lt_of_eq (by decide : 178 < 305) rfl) (by decide) ?_
            intro y175 y176
            simp only [Act.put, List.setIfInBounds_toArray, List.set_cons_zero, List.set_cons_succ]
            refine or_eq 179 178 38 _ (c.toNat : Int) 38 rfl rfl rfl rfl rfl rfl rfl rfl rfl rfl rfl rfl rfl rfl rfl (Nat.lt_of_lt_of_eq (by decide : 182 < 305) rfl) (by decide) ?_
            intro y179 y180
            simp only [Act.put, List.setIfInBounds_toArray, List.set_cons_zero, List.set_cons_succ]
            refine or_eq 183 182 42 _ (c.toNat : Int) 39 rfl rfl rfl rfl rfl rfl rfl rfl rfl rfl rfl rfl rfl rfl rfl (Nat.lt_of_lt_of_eq (by decide : 186 < 305) rfl) (by decide) ?_
            intro y183 y184
            simp only [Act.put, List.setIfInBounds_toArray, List.set_cons_zero, List.set_cons_succ]
            refine or_eq 187 186 46 _ (c.toNat : Int) 42 rfl rfl rfl rfl rfl rfl rfl rfl rfl rfl rfl rfl rfl rfl rfl (Nat.lt_of_lt_of_eq (by decide : 190 < 305) rfl) (by decide) ?_
            intro y187 y188
            simp only [Act.put, List.setIfInBounds_toArray, List.set_cons_zero, List.set_cons_succ]
            refine or_eq 191 190 50 _ (c.toNat : Int) 43 rfl rfl rfl rfl rfl rfl rfl rfl rfl rfl rfl rfl rfl rfl rfl (Nat.lt_of_lt_of_eq (by decide : 194 < 305) rfl) (by decide) ?_
            intro y191 y192
            simp only [Act.put, List.setIfInBounds_toArray, List.set_cons_zero, List.set_cons_succ]
            refine or_eq 195 194 54 _ (c.toNat : Int) 45 rfl rfl rfl rfl rfl rfl rfl rfl rfl rfl rfl rfl rfl rfl rfl (Nat.lt_of_lt_of_eq (by decide : 198 < 305) rfl) (by decide) ?_
            intro y195 y196
            simp only [Act.put, List.setIfInBounds_toArray, List.set_cons_zero, List.set_cons_succ]
            refine or_eq 199 198 58 _ (c.toNat : Int) 47 rfl rfl rfl rfl rfl rfl rfl rfl rfl rfl rfl rfl rfl rfl rfl (Nat.lt_of_lt_of_eq (by decide : 202 < 305) rfl) (by decide) ?_
            intro y199 y200
            simp only [Act.put, List.setIfInBounds_toArray, List.set_cons_zero, List.set_cons_succ]
            refine or_eq 203 202 62 _ (c.toNat : Int) 61 rfl rfl rfl rfl rfl rfl rfl rfl rfl rfl rfl rfl rfl rfl rfl (Nat.lt_of_lt_of_eq (by decide : 206 < 305) rfl) (by decide) ?_
            intro y203 y204
            simp only [Act.put, List.setIfInBounds_toArray, List.set_cons_zero, List.set_cons_succ]
            refine or_eq 207 206 66 _ (c.toNat : Int) 63 rfl rfl rfl rfl rfl rfl rfl rfl rfl rfl rfl rfl rfl rfl rfl (Nat.lt_of_lt_of_eq (by decide : 210 < 305) rfl) (by decide) ?_
            intro y207 y208
            simp only [Act.put, List.setIfInBounds_toArray, List.set_cons_zero, List.set_cons_succ]
            refine or_eq 211 210 70 _ (c.toNat : Int) 94 rfl rfl rfl rfl rfl rfl rfl rfl rfl rfl rfl rfl rfl rfl rfl (Nat.lt_of_lt_of_eq (by decide : 214 < 305) rfl) (by decide) ?_
            intro y211 y212
            simp only [Act.put, List.setIfInBounds_toArray, List.set_cons_zero, List.set_cons_succ]
            refine or_eq 215 214 74 _ (c.toNat : Int) 95 rfl rfl rfl rfl rfl rfl rfl rfl rfl rfl rfl rfl rfl rfl rfl (Nat.lt_of_lt_of_eq (by decide : 218 < 305) rfl) (by decide) ?_
            intro y215 y216
            simp only [Act.put, List.setIfInBounds_toArray, List.set_cons_zero, List.set_cons_succ]
            refine or_eq 219 218 78 _ (c.toNat : Int) 96 rfl rfl rfl rfl rfl rfl rfl rfl rfl rfl rfl rfl rfl rfl rfl (Nat.lt_of_lt_of_eq (by decide : 222 < 305) rfl) (by decide) ?_
            intro y219 y220
            simp only [Act.put, List.setIfInBounds_toArray, List.set_cons_zero, List.set_cons_succ]
            refine or_eq 223 222 82 _ (c.toNat : Int) 123 rfl rfl rfl rfl rfl rfl rfl rfl rfl rfl rfl rfl rfl rfl rfl (Nat.lt_of_lt_of_eq (by decide : 226 < 305) rfl) (by decide) ?_
            intro y223 y224
            simp only [Act.put, List.setIfInBounds_toArray, List.set_cons_zero, List.set_cons_succ]
            refine or_eq 227 226 86 _ (c.toNat : Int) 124 rfl rfl rfl rfl rfl rfl rfl rfl rfl rfl rfl rfl rfl rfl rfl (Nat.lt_of_lt_of_eq (by decide : 230 < 305) rfl) (by decide) ?_
            intro y227 y228
            simp only [Act.put, List.setIfInBounds_toArray, List.set_cons_zero, List.set_cons_succ]
            refine or_eq 231 230 90 _ (c.toNat : Int) 125 rfl rfl rfl rfl rfl rfl rfl rfl rfl rfl rfl rfl rfl rfl rfl (Nat.lt_of_lt_of_eq (by decide : 234 < 305) rfl) (by decide) ?_
            intro y231 y232
            simp only [Act.put, List.setIfInBounds_toArray, List.set_cons_zero, List.set_cons_succ]
            refine or_eq 235 234 94 _ (c.toNat : Int) 126 rfl rfl rfl rfl rfl rfl rfl rfl rfl rfl rfl rfl rfl rfl rfl (Nat.lt_of_lt_of_eq (by decide : 238 < 305) rfl) (by decide) ?_
            intro y235 y236
            simp only [Act.put, List.setIfInBounds_toArray, List.set_cons_zero, List.set_cons_succ]
            refine or_eq_last 239 238 98 139 _ (c.toNat : Int) 46 rfl rfl rfl rfl rfl rfl rfl rfl rfl rfl rfl rfl rfl rfl rfl (Nat.lt_of_lt_of_eq (by decide : 241 < 305) rfl) (by decide) ?_
            intro y239 y240
            simp only [Act.put, List.setIfInBounds_toArray, List.set_cons_zero, List.set_cons_succ]
            rw [atB_int]
            go_wp2
            go_meet
            case rel => exact ⟨rfl, rfl⟩
          case rest =>
            obtain ⟨rfl, rfl⟩ := hcut
            subst hwz
            have hr := HRR.out
            cases hqp : atB c with
            | true =>
              rw [hqp, if_pos rfl] at hr
              have HR2 := Lib.hid hr
              clear hr c92 hqp HRR HL
              have hb2 := hbr.alloc hbr.size (.cells #[.int .u8 (c.toNat : Int)] 5)
              have hown2 := hown.alloc (.cells #[.int .u8 (c.toNat : Int)] 5)
              have hr2 := hblk.alloc (.cells #[.int .u8 (c.toNat : Int)] 5)
              have hrd := one_rd wc 5 (.int .u8 (c.toNat : Int))
              have hsz2 : w.heap.size + 1 ≤ (wc.alloc (.cells #[.int .u8 (c.toNat : Int)] 5)).heap.size := by have := hbr.size; rw [World.size_alloc]; omega
              go_wp2_with (first
                | (at_builtin
                   refine wpList_append_any _ rfl _ (.tmp 251) _ rfl (w.heap.size + 1) 5 i0 _ 1 1 Tryz.underlying43 hi0 hz0 hz1 hz2 rfl (by omega) u4 n _ rfl hown2 (wc.heap.size + 1) (some ⟨wc.heap.size, 0, none⟩) 1 1 _ rfl hrd (by simp [Value.oneCell']) (by simp only [maxLen]; omega) (by omega) hsz2 ?_
                   intro v1 w2 hown3 hg3 hat3))
              have hb3 : Below w.heap.size w w2 := hb2.grown hg3 hb2.size (fun q hq => by have := (hown2.lt q hq).1; omega)
              have hr3 := hr2.grown hg3 (fun e => by have := (hown2.lt _ e.symm).1; omega)
              have hown4 : w2.ownsRow (w.heap.size + 1) 5 1 v1 (n + 1) ((acc ++ [c]).map b8) := by rw [← snoc_b8]; exact hown3
              clear hown3 hg3 hat3 hown2 hrd hsz2 hb2 hr2 hbr hown hblk
              go_wp2
              go_roundg t1.size
              case measure => omega
              case rel => exact ⟨t1, n + 1, acc ++ [c], rfl, by omega, Nat.le_refl _, by omega, by simp [HN.out], hown4, hr3, hb3, HR2.out⟩
            | false =>
              rw [hqp, if_neg (by decide)] at hr
              have HR2 : Hid (pAtoms acc t.data.toList = R) := by
                rw [HL.out, hti, ← cut1_list, ht]; exact hr
              clear hr c92 hqp HRR HL
              go_wp2
              go_meet
              case rel => exact ⟨t, n, acc, rfl, ht1, ht2, HN.out, hown, hblk, hbr, HR2⟩
  case rest =>
    clear HQ HB1 HR1 HO1
    obtain ⟨t, n, acc, rfl, ht1, ht2, hn, hown, hblk, hbr, hrel⟩ := hcut
    have HN := Lib.hid hn
    by_cases hne : acc = []
    · have hnone : R = none := by
        rw [← hrel.out]; unfold pAtoms; rw [if_pos hne]
      have hn0 : n = 0 := by rw [hn, hne]; rfl
      obtain ⟨A, cap, hform⟩ : ∃ A cap, u4 = .slice A 0 cap := by
        rcases hown.2 with ⟨h, _⟩ | ⟨g, cap, cur, h, _⟩
        · exact ⟨_, _, h⟩
        · exact ⟨_, cap, by rw [h, hn0]⟩
      subst hform
      clear hn hn0 hne hrel
      have c0 := hblk.at_ 0 rfl
      have c1 := hblk.at_ 1 rfl
      have f0 := hblk.frozen 0
      have f1 := hblk.frozen 1
      have hrr := (hblk.set_ 0 (.string ⟨#[]⟩)).set_ 1 (.string ⟨#[]⟩)
      have hb4 := (hbr.setCell (p := ⟨w.heap.size, 0, none⟩) (Nat.le_refl _) (.string ⟨#[]⟩)).setCell (p := ⟨w.heap.size, 1, none⟩) (Nat.le_refl _) (.string ⟨#[]⟩)
      subst hnone
      go_wp2
      generalize (wc.setCell ⟨w.heap.size, 0, none⟩ (.string ⟨#[]⟩)).setCell ⟨w.heap.size, 1, none⟩ (.string ⟨#[]⟩) = W' at *
      clear c0 c1
      have x0 := hrr.at_ 0 rfl
      have x1 := hrr.at_ 1 rfl
      refine bodyPost_ret (v := .tuple #[.agg #[.string ⟨#[]⟩, .string ⟨#[]⟩], .bool false]) (by simp [results, Tryz.results112, go_sem, x0, x1]) rfl ⟨.inl ⟨rfl, rfl⟩, hb4⟩
    · have hnp : 0 < n := by rw [hn]; exact List.length_pos_iff.2 hne
      obtain ⟨g, cap, hform, hgb, hgl⟩ := hown.form hnp
      subst hform
      have hnz : ((n : Int) == 0) = false := ib_ne (by omega)
      have hb2 := hbr.alloc hbr.size (.cells #[.int .u8 46, .int .u8 46] 5)
      have hown2 := hown.alloc (.cells #[.int .u8 46, .int .u8 46] 5)
      have hblk2 := hblk.alloc (.cells #[.int .u8 46, .int .u8 46] 5)
      have hdd := Blk.new wc 5 #[.int .u8 46, .int .u8 46]
      have hcells := hown2.cells (g := g) rfl
      have h0n : 0 < acc.length := by omega
      have h1n : n - 1 < acc.length := by omega
      have k0 : (wc.alloc (.cells #[.int .u8 46, .int .u8 46] 5)).cell? ⟨g, 0, none⟩ = some (.int .u8 (acc[0].toNat : Int)) := hcells 0 _ (by simp [h0n, b8])
      have k1 : (wc.alloc (.cells #[.int .u8 46, .int .u8 46] 5)).cell? ⟨g, n - 1, none⟩ = some (.int .u8 (acc[n - 1].toNat : Int)) := by
        have := hcells (n - 1) (.int .u8 (acc[n - 1].toNat : Int)) (by simp [h1n, b8])
        rwa [show (⟨g, 0, none⟩ : Addr).add (n - 1) = ⟨g, n - 1, none⟩ by unfold Addr.add; split <;> simp_all] at this
      have hcv1 := conv_own hown2 hn
      have hcv2 : (convert 43 9 (.slice (some ⟨wc.heap.size, 0, none⟩) 2 2)).run Tryz.prog (wc.alloc (.cells #[.int .u8 46, .int .u8 46] 5)) = .ok (.string twoDots) (wc.alloc (.cells #[.int .u8 46, .int .u8 46] 5)) :=
        run_convert_bytes_back (P := Tryz.prog) _ 43 9 5 ⟨wc.heap.size, 0, none⟩ 2 [46, 46] Tryz.underlying43 Tryz.underlying5 Tryz.underlying9 (fun j hj => by
          match j, hj with
          | 0, _ => exact hdd.at_ 0 rfl
          | 1, _ => exact hdd.at_ 1 rfl
          | j + 2, hj => exact absurd hj (by simp only [List.length_cons, List.length_nil]; omega))
      have hla : acc.getLast? = some acc[n - 1] := by
        rw [List.getLast?_eq_getElem?, List.getElem?_eq_getElem (by omega)]
        congr 1
        congr 1
        omega
      have hhd : acc.head? = some acc[0] := by rw [List.head?_eq_getElem?, List.getElem?_eq_getElem h0n]
      have hbd : badDots acc = (decide (acc[0].toNat = 46) || decide (acc[n - 1].toNat = 46) || hasB ⟨acc.toArray⟩ twoDots) := by
        unfold badDots; rw [hhd, hla]; rfl
      have hrel2 : (if badDots acc = true then none else pRest acc t.data.toList) = R := by
        rw [← hrel.out]; unfold pAtoms; rw [if_neg hne]
      rw [hbd] at hrel2
      have ZC := Lib.hid (fun W => zzContains_calls ⟨acc.toArray⟩ twoDots W (by show acc.toArray.size ≤ _; simp; omega) (by decide))
      clear hbd hhd hla hrel hcells hdd hne hgb hgl
      obtain ⟨x0', hx0⟩ : ∃ x, acc[0].toNat = x := ⟨_, rfl⟩
      obtain ⟨x1', hx1⟩ : ∃ x, acc[n - 1].toNat = x := ⟨_, rfl⟩
      rw [hx0] at k0 hrel2
      rw [hx1] at k1 hrel2
      clear hx0 hx1 hown hblk hbr h0n h1n
      by_cases d0 : x0' = 46
      · have hd0 : ((x0' : Int) == 46) = true := ib_eq (by omega)
        have hnone : R = none := by rw [← hrel2, decide_eq_true d0]; rfl
        clear d0 hrel2 hn
        go_upto_if 279 with (fail)
        have c0 := hblk2.at_ 0 rfl
        have c1 := hblk2.at_ 1 rfl
        have f0 := hblk2.frozen 0
        have f1 := hblk2.frozen 1
        have hrr := (hblk2.set_ 0 (.string ⟨#[]⟩)).set_ 1 (.string ⟨#[]⟩)
        have hb4 := (hb2.setCell (p := ⟨w.heap.size, 0, none⟩) (Nat.le_refl _) (.string ⟨#[]⟩)).setCell (p := ⟨w.heap.size, 1, none⟩) (Nat.le_refl _) (.string ⟨#[]⟩)
        subst hnone
        go_wp2
        generalize ((wc.alloc (.cells #[.int .u8 46, .int .u8 46] 5)).setCell ⟨w.heap.size, 0, none⟩ (.string ⟨#[]⟩)).setCell ⟨w.heap.size, 1, none⟩ (.string ⟨#[]⟩) = W' at *
        clear c0 c1
        have x0 := hrr.at_ 0 rfl
        have x1 := hrr.at_ 1 rfl
        refine bodyPost_ret (v := .tuple #[.agg #[.string ⟨#[]⟩, .string ⟨#[]⟩], .bool false]) (by simp [results, Tryz.results112, go_sem, x0, x1]) rfl ⟨.inl ⟨rfl, rfl⟩, hb4⟩
      · have hd0 : ((x0' : Int) == 46) = false := ib_ne (by omega)
        by_cases d1 : x1' = 46
        · have hd1 : ((x1' : Int) == 46) = true := ib_eq (by omega)
          have hnone : R = none := by rw [← hrel2, decide_eq_true d1, Bool.or_true]; rfl
          clear d0 d1 hrel2 hn
          go_upto_if 279 with (fail)
          have c0 := hblk2.at_ 0 rfl
          have c1 := hblk2.at_ 1 rfl
          have f0 := hblk2.frozen 0
          have f1 := hblk2.frozen 1
          have hrr := (hblk2.set_ 0 (.string ⟨#[]⟩)).set_ 1 (.string ⟨#[]⟩)
          have hb4 := (hb2.setCell (p := ⟨w.heap.size, 0, none⟩) (Nat.le_refl _) (.string ⟨#[]⟩)).setCell (p := ⟨w.heap.size, 1, none⟩) (Nat.le_refl _) (.string ⟨#[]⟩)
          subst hnone
          go_wp2
          generalize ((wc.alloc (.cells #[.int .u8 46, .int .u8 46] 5)).setCell ⟨w.heap.size, 0, none⟩ (.string ⟨#[]⟩)).setCell ⟨w.heap.size, 1, none⟩ (.string ⟨#[]⟩) = W' at *
          clear c0 c1
          have x0 := hrr.at_ 0 rfl
          have x1 := hrr.at_ 1 rfl
          refine bodyPost_ret (v := .tuple #[.agg #[.string ⟨#[]⟩, .string ⟨#[]⟩], .bool false]) (by simp [results, Tryz.results112, go_sem, x0, x1]) rfl ⟨.inl ⟨rfl, rfl⟩, hb4⟩
        · have hd1 : ((x1' : Int) == 46) = false := ib_ne (by omega)
          rw [decide_eq_false d0, decide_eq_false d1] at hrel2
          have HREL := Lib.hid hrel2
          clear d0 d1 hrel2 hn
          go_wp2_with (fail)
          refine (ZC.out _).mono ?_
          rintro e wd ⟨rfl, rfl⟩
          have hrel2 := HREL.out
          clear ZC HREL
          cases hdd : hasB ⟨acc.toArray⟩ twoDots with
          | true =>
            rw [hdd] at hrel2
            have hnone : R = none := by rw [← hrel2]; rfl
            clear hrel2 hdd
            go_upto_if 279 with (fail)
            have c0 := hblk2.at_ 0 rfl
            have c1 := hblk2.at_ 1 rfl
            have f0 := hblk2.frozen 0
            have f1 := hblk2.frozen 1
            have hrr := (hblk2.set_ 0 (.string ⟨#[]⟩)).set_ 1 (.string ⟨#[]⟩)
            have hb4 := (hb2.setCell (p := ⟨w.heap.size, 0, none⟩) (Nat.le_refl _) (.string ⟨#[]⟩)).setCell (p := ⟨w.heap.size, 1, none⟩) (Nat.le_refl _) (.string ⟨#[]⟩)
            subst hnone
            go_wp2
            generalize ((wc.alloc (.cells #[.int .u8 46, .int .u8 46] 5)).setCell ⟨w.heap.size, 0, none⟩ (.string ⟨#[]⟩)).setCell ⟨w.heap.size, 1, none⟩ (.string ⟨#[]⟩) = W' at *
            clear c0 c1
            have x0 := hrr.at_ 0 rfl
            have x1 := hrr.at_ 1 rfl
            refine bodyPost_ret (v := .tuple #[.agg #[.string ⟨#[]⟩, .string ⟨#[]⟩], .bool false]) (by simp [results, Tryz.results112, go_sem, x0, x1]) rfl ⟨.inl ⟨rfl, rfl⟩, hb4⟩
          | false =>
            rw [hdd] at hrel2
            have HR2 : Hid (pRest acc t.data.toList = R) := hrel2
            clear hrel2 hdd k0 k1 hcv1 hcv2
            have hown := hown2
            have hblk := hblk2
            have hbr := hb2
            clear hown2 hblk2 hb2
            generalize wc.alloc (.cells #[.int .u8 46, .int .u8 46] 5) = wd at *
            go_wp2_with (fail)
            rw [Exit.noGoto_normal]
            by_cases z0 : t.size = 0
            · have hzt : ((t.size : Int) == 0) = true := ib_eq (by omega)
              have hnone : R = none := by
                rw [← HR2.out, List.eq_nil_of_length_eq_zero (by simpa using z0 : t.data.toList.length = 0)]; rfl
              clear z0 HR2
              have c0 := hblk.at_ 0 rfl
              have c1 := hblk.at_ 1 rfl
              have f0 := hblk.frozen 0
              have f1 := hblk.frozen 1
              have hrr := (hblk.set_ 0 (.string ⟨#[]⟩)).set_ 1 (.string ⟨#[]⟩)
              have hb4 := (hbr.setCell (p := ⟨w.heap.size, 0, none⟩) (Nat.le_refl _) (.string ⟨#[]⟩)).setCell (p := ⟨w.heap.size, 1, none⟩) (Nat.le_refl _) (.string ⟨#[]⟩)
              subst hnone
              go_wp2
              generalize (wd.setCell ⟨w.heap.size, 0, none⟩ (.string ⟨#[]⟩)).setCell ⟨w.heap.size, 1, none⟩ (.string ⟨#[]⟩) = W' at *
              clear c0 c1
              have x0 := hrr.at_ 0 rfl
              have x1 := hrr.at_ 1 rfl
              refine bodyPost_ret (v := .tuple #[.agg #[.string ⟨#[]⟩, .string ⟨#[]⟩], .bool false]) (by simp [results, Tryz.results112, go_sem, x0, x1]) rfl ⟨.inl ⟨rfl, rfl⟩, hb4⟩
            · have tp : 0 < t.size := by omega
              have hzt : ((t.size : Int) == 0) = false := ib_ne (by omega)
              have hl := head_list' t tp
              have hl1 := cut1_list t
              have hs1 : (t.extract 1 t.size).size ≤ t.size := by simp
              have hr := HR2.out
              rw [hl, ← hl1] at hr
              obtain ⟨tz, ht⟩ : ∃ tz, t.extract 1 t.size = tz := ⟨_, rfl⟩
              obtain ⟨c, hti⟩ : ∃ c, t[0] = c := ⟨_, rfl⟩
              rw [ht, hti] at hr
              rw [ht] at hs1
              clear hl hl1 HR2
              by_cases c64 : c.toNat = 64
              · have hc4 : ((c.toNat : Int) == 64) = true := ib_eq (by omega)
                have hc5 : (!((c.toNat : Int) == 64)) = false := by rw [hc4]; rfl
                have hc6 : ((c.toNat : Int) != 64) = false := hc5
                have hr2 : (if dnvL tz.data.toList && !signL tz.data.toList then some (acc, tz.data.toList) else none) = R := by
                  rw [← hr, pRest_cons, if_pos c64]
                have hd : dnv tz = dnvL tz.data.toList := by
                  unfold dnv dnvL
                  by_cases e : tz.size = 0
                  · rw [if_pos e, if_pos (List.eq_nil_of_length_eq_zero (by simpa using e))]
                  · rw [if_neg e, if_neg (fun h => e (by have := congrArg List.length h; simpa using this))]
                have dv := fun W => dnv_calls tz W (by omega)
                rw [hd] at dv
                have DV := Lib.hid dv
                have SG := Lib.hid (fun W => zzContainsRune_calls tz W)
                have hsg : hasSign tz = signL tz.data.toList := rfl
                rw [hsg] at SG
                clear hr c64 hd dv hsg
                cases hdv : dnvL tz.data.toList with
                | false =>
                  rw [hdv] at hr2 DV
                  have hnone : R = none := by rw [← hr2]; rfl
                  clear hr2 hdv SG
                  go_wp2_with (fail)
                  refine (DV.out _).mono ?_
                  rintro e wd ⟨rfl, rfl⟩
                  clear DV
                  have c0 := hblk.at_ 0 rfl
                  have c1 := hblk.at_ 1 rfl
                  have f0 := hblk.frozen 0
                  have f1 := hblk.frozen 1
                  have hrr := (hblk.set_ 0 (.string ⟨#[]⟩)).set_ 1 (.string ⟨#[]⟩)
                  have hb4 := (hbr.setCell (p := ⟨w.heap.size, 0, none⟩) (Nat.le_refl _) (.string ⟨#[]⟩)).setCell (p := ⟨w.heap.size, 1, none⟩) (Nat.le_refl _) (.string ⟨#[]⟩)
                  subst hnone
                  go_wp2
                  generalize (wd.setCell ⟨w.heap.size, 0, none⟩ (.string ⟨#[]⟩)).setCell ⟨w.heap.size, 1, none⟩ (.string ⟨#[]⟩) = W' at *
                  clear c0 c1
                  have x0 := hrr.at_ 0 rfl
                  have x1 := hrr.at_ 1 rfl
                  refine bodyPost_ret (v := .tuple #[.agg #[.string ⟨#[]⟩, .string ⟨#[]⟩], .bool false]) (by simp [results, Tryz.results112, go_sem, x0, x1]) rfl ⟨.inl ⟨rfl, rfl⟩, hb4⟩
                | true =>
                  rw [hdv] at hr2 DV
                  clear hdv
                  go_wp2_with (fail)
                  refine (DV.out _).mono ?_
                  rintro e wd ⟨rfl, rfl⟩
                  clear DV
                  go_wp2_with (fail)
                  refine (SG.out _).mono ?_
                  rintro e wd ⟨rfl, bd⟩
                  have hblk := hblk.later bd
                  have hbr2 := hbr.trans (bd.mono hbr.size)
                  have hown := own_later hown bd
                  clear SG bd
                  cases hsg : signL tz.data.toList with
                  | true =>
                    rw [hsg] at hr2
                    have hnone : R = none := by rw [← hr2]; rfl
                    clear hr2
                    have c0 := hblk.at_ 0 rfl
                    have c1 := hblk.at_ 1 rfl
                    have f0 := hblk.frozen 0
                    have f1 := hblk.frozen 1
                    have hrr := (hblk.set_ 0 (.string ⟨#[]⟩)).set_ 1 (.string ⟨#[]⟩)
                    have hb4 := (hbr2.setCell (p := ⟨w.heap.size, 0, none⟩) (Nat.le_refl _) (.string ⟨#[]⟩)).setCell (p := ⟨w.heap.size, 1, none⟩) (Nat.le_refl _) (.string ⟨#[]⟩)
                    subst hnone
                    go_wp2
                    generalize (wd.setCell ⟨w.heap.size, 0, none⟩ (.string ⟨#[]⟩)).setCell ⟨w.heap.size, 1, none⟩ (.string ⟨#[]⟩) = W' at *
                    clear c0 c1
                    have x0 := hrr.at_ 0 rfl
                    have x1 := hrr.at_ 1 rfl
                    refine bodyPost_ret (v := .tuple #[.agg #[.string ⟨#[]⟩, .string ⟨#[]⟩], .bool false]) (by simp [results, Tryz.results112, go_sem, x0, x1]) rfl ⟨.inl ⟨rfl, rfl⟩, hb4⟩
                  | false =>
                    rw [hsg] at hr2
                    have hsome : R = some (acc, tz.data.toList) := by rw [← hr2]; rfl
                    subst hsome
                    have hcv := conv_own hown HN.out
                    clear hr2
                    have c0 := hblk.at_ 0 rfl
                    have c1 := hblk.at_ 1 rfl
                    have f0 := hblk.frozen 0
                    have f1 := hblk.frozen 1
                    have hrr := (((hblk.set_ 0 (.string ⟨acc.toArray⟩)).set_ 1 (.string tz)).set_ 0 (.string ⟨acc.toArray⟩)).set_ 1 (.string tz)
                    have hb4 := (((hbr2.setCell (p := ⟨w.heap.size, 0, none⟩) (Nat.le_refl _) (.string ⟨acc.toArray⟩)).setCell (p := ⟨w.heap.size, 1, none⟩) (Nat.le_refl _) (.string tz)).setCell (p := ⟨w.heap.size, 0, none⟩) (Nat.le_refl _) (.string ⟨acc.toArray⟩)).setCell (p := ⟨w.heap.size, 1, none⟩) (Nat.le_refl _) (.string tz)
                    go_wp2
                    generalize (((wd.setCell ⟨w.heap.size, 0, none⟩ (.string ⟨acc.toArray⟩)).setCell ⟨w.heap.size, 1, none⟩ (.string tz)).setCell ⟨w.heap.size, 0, none⟩ (.string ⟨acc.toArray⟩)).setCell ⟨w.heap.size, 1, none⟩ (.string tz) = W' at *
                    clear c0 c1
                    have x0 := hrr.at_ 0 rfl
                    have x1 := hrr.at_ 1 rfl
                    refine bodyPost_ret (v := .tuple #[.agg #[.string ⟨acc.toArray⟩, .string tz], .bool true]) (by simp [results, Tryz.results112, go_sem, x0, x1]) rfl ⟨.inr ⟨_, _, rfl, by rw [ba_eta]⟩, hb4⟩
              · have hc4 : ((c.toNat : Int) == 64) = false := ib_ne (by omega)
                have hc5 : (!((c.toNat : Int) == 64)) = true := by rw [hc4]; rfl
                have hc6 : ((c.toNat : Int) != 64) = true := hc5
                have hnone : R = none := by
                  rw [← hr, pRest_cons, if_neg c64]
                clear hr c64
                have c0 := hblk.at_ 0 rfl
                have c1 := hblk.at_ 1 rfl
                have f0 := hblk.frozen 0
                have f1 := hblk.frozen 1
                have hrr := (hblk.set_ 0 (.string ⟨#[]⟩)).set_ 1 (.string ⟨#[]⟩)
                have hb4 := (hbr.setCell (p := ⟨w.heap.size, 0, none⟩) (Nat.le_refl _) (.string ⟨#[]⟩)).setCell (p := ⟨w.heap.size, 1, none⟩) (Nat.le_refl _) (.string ⟨#[]⟩)
                subst hnone
                go_wp2
                generalize (wd.setCell ⟨w.heap.size, 0, none⟩ (.string ⟨#[]⟩)).setCell ⟨w.heap.size, 1, none⟩ (.string ⟨#[]⟩) = W' at *
                clear c0 c1
                have x0 := hrr.at_ 0 rfl
                have x1 := hrr.at_ 1 rfl
                refine bodyPost_ret (v := .tuple #[.agg #[.string ⟨#[]⟩, .string ⟨#[]⟩], .bool false]) (by simp [results, Tryz.results112, go_sem, x0, x1]) rfl ⟨.inl ⟨rfl, rfl⟩, hb4⟩
end Go.Proofs.YtblabjfjhlablaaGreatDoor
