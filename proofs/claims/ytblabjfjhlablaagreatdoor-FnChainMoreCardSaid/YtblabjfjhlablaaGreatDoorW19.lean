/- The walks of spec's lower, labelOk, Labels and NameOk. -/
import Derived.Test.YtblabjfjhlablaaGreatDoorNm
import Derived.Test.YtblabjfjhlablaaGreatDoorW14
namespace Go.Proofs.YtblabjfjhlablaaGreatDoor
open Go.RowKit Nc
theorem low_up : ∀ x : UInt8, (65 ≤ x.toNat ∧ x.toNat ≤ 90 → (low x).toNat = x.toNat + 32) ∧ (¬ (65 ≤ x.toNat ∧ x.toNat ≤ 90) → low x = x) := forall_u8 _ (by decide +kernel)
theorem lower_calls (x : UInt8) (w : World) : Calls Tryz.prog 38 #[.int .u8 x.toNat] w fun e w' => e = .returned (.int .u8 (low x).toNat) ∧ w = w' := by
  obtain ⟨l1, l2⟩ := low_up x
  have u1 := x.toNat_lt
  by_cases c1 : 65 ≤ x.toNat
  · by_cases c2 : x.toNat ≤ 90
    · rw [l1 ⟨c1, c2⟩]
      clear l1 l2
      go_enter Tryz.func38, Tryz.ntmps38
      go_wp2
      go_ret
      exact ⟨rfl, rfl⟩
    · rw [l2 (by omega)]
      clear l1 l2
      go_enter Tryz.func38, Tryz.ntmps38
      go_wp2
      go_ret
      exact ⟨rfl, rfl⟩
  · rw [l2 (by omega)]
    clear l1 l2
    go_enter Tryz.func38, Tryz.ntmps38
    go_wp2
    go_ret
    exact ⟨rfl, rfl⟩
theorem empty_own (w : World) (t : TypeId) : (w.alloc (.cells #[] t)).ownsRow w.heap.size t 1 (.slice (some ⟨w.heap.size, 0, none⟩) 0 0) 0 [] :=
  ⟨by simp, .inr ⟨w.heap.size, 0, #[], rfl, Nat.le_refl _, heap_alloc_new w _, by simp, by simp [maxLen], by simp, by simp⟩⟩
theorem one_reads (w : World) (t : TypeId) (u : Value) : Reads (w.alloc (.cells #[u] t)) (w.heap.size + 1) 1 (some ⟨w.heap.size, 0, none⟩) 1 [u] :=
  ⟨rfl, fun _ => ⟨⟨w.heap.size, 0, none⟩, rfl, Nat.lt_succ_self _, fun j x hx => by
    cases j with
    | zero =>
      simp only [List.getElem?_cons_zero, Option.some.injEq] at hx
      subst hx
      exact (Blk.new w t #[u]).at_ 0 rfl
    | succ j => simp at hx⟩⟩
set_option maxRecDepth 100000 in
theorem labels_calls (s : ByteArray) (w : World) (hs : s.size ≤ 2147483647) :
    Calls Tryz.prog 36 #[.string s] w fun e w' => ∃ v, e = .returned v ∧ SRow w' 9 v ((cuts s 0 0).map .string) ∧ Below w.heap.size w w' := by
  obtain ⟨i0, hi0, hz0, hz1, hz2⟩ := info_parts str_info
  have hw0 : Below w.heap.size w (w.alloc (.cells #[] 9)) := (Below.refl _ _).alloc (Nat.le_refl _) _
  have ho0 : (w.alloc (.cells #[] 9)).ownsRow w.heap.size 9 1 (.slice (some ⟨w.heap.size, 0, none⟩) 0 0) ([] : List ByteArray).length (([] : List ByteArray).map .string) := empty_own w 9
  have H0 := Lib.hid hw0
  have H1 := Lib.hid ho0
  generalize hRR : cuts s 0 0 = R
  have HC := Lib.hid hRR
  clear hw0 ho0 hRR
  go_enter Tryz.func36, Tryz.ntmps36
  go_wp2
  go_loopw [3, 4, 5] (fun o f i wr => ∃ (k fr : Nat) (L : List ByteArray), i = .int .i64 k ∧ f = .int .i64 fr ∧ fr ≤ k ∧ k ≤ s.size ∧ L.length ≤ k ∧ Below w.heap.size w wr ∧ wr.ownsRow w.heap.size 9 1 o L.length (L.map .string) ∧ Hid (L ++ cuts s fr k = R)) (fun _ _ i _ => s.size - (intOf i).toNat)
  case atStart => exact ⟨0, 0, [], rfl, rfl, Nat.le_refl _, Nat.zero_le _, Nat.le_refl _, H0.out, H1.out, HC.out⟩
  case round =>
    obtain ⟨k, fr, L, rfl, rfl, hfk, hk, hLk, hbr, hown, hcut⟩ := hrel
    clear H0 H1 HC
    by_cases hlt : k < s.size
    · have hc := hcut.out
      rw [cuts, dif_pos hlt] at hc
      have u1 := (s[k]).toNat_lt
      by_cases hd : s[k].toNat = 46
      · rw [if_pos hd] at hc
        have hd' : ((s[k].toNat : Int) == 46) = true := ib_eq (by omega)
        have hcut2 : Hid ((L ++ [s.extract fr k]) ++ cuts s (k + 1) (k + 1) = R) := by
          rw [List.append_assoc]; exact hc
        clear hd hc hcut
        have hb2 := hbr.alloc hbr.size (.cells #[.string (s.extract fr k)] 9)
        have hown2 := hown.alloc (.cells #[.string (s.extract fr k)] 9)
        have hrd := one_reads wr 9 (.string (s.extract fr k))
        go_wp2_with (first
          | (at_builtin
             refine wpList_append_any _ rfl _ (.tmp 22) _ rfl w.heap.size 9 i0 _ 1 16 Tryz.underlying22 hi0 hz0 hz1 hz2 rfl (by omega) u3 L.length _ rfl hown2 (wr.heap.size + 1) (some ⟨wr.heap.size, 0, none⟩) 1 1 _ rfl hrd (by simp [Value.oneCell']) (by simp only [maxLen]; omega) (by omega) hb2.size ?_
             intro v1 w2 hown3 hg3 hat3))
        have hb3 : Below w.heap.size w w2 := hb2.grown hg3 hb2.size (fun q hq => (hown2.lt q hq).1)
        have hown4 : w2.ownsRow w.heap.size 9 1 v1 (L ++ [s.extract fr k]).length ((L ++ [s.extract fr k]).map .string) := by simpa using hown3
        clear hown3 hg3 hat3 hown2 hrd hb2 hown hbr
        go_roundw
        case rel => exact ⟨k + 1, k + 1, _, by go_num, by go_num, by omega, by omega, by simp; omega, hb3, hown4, hcut2⟩
        case measure => simp only [intOf]; omega
      · rw [if_neg hd] at hc
        have hd' : ((s[k].toNat : Int) == 46) = false := ib_ne (by omega)
        have hcut2 : Hid (L ++ cuts s fr (k + 1) = R) := hc
        clear hd hc hcut
        go_wp2
        go_roundw
        case rel => exact ⟨k + 1, fr, L, by go_num, rfl, by omega, by omega, by omega, hbr, hown, hcut2⟩
        case measure => simp only [intOf]; omega
    · obtain rfl : k = s.size := by omega
      have hc := hcut.out
      rw [cuts, dif_neg (by omega)] at hc
      have HR := Lib.hid hc
      clear hc hcut
      have hb2 := hbr.alloc hbr.size (.cells #[.string (s.extract fr s.size)] 9)
      have hown2 := hown.alloc (.cells #[.string (s.extract fr s.size)] 9)
      have hrd := one_reads wr 9 (.string (s.extract fr s.size))
      go_wp2_with (first
        | (at_builtin
           refine wpList_append_any _ rfl _ (.tmp 30) _ rfl w.heap.size 9 i0 _ 1 16 Tryz.underlying22 hi0 hz0 hz1 hz2 rfl (by omega) u3 L.length _ rfl hown2 (wr.heap.size + 1) (some ⟨wr.heap.size, 0, none⟩) 1 1 _ rfl hrd (by simp [Value.oneCell']) (by simp only [maxLen]; omega) (by omega) hb2.size ?_
           intro v1 w2 hown3 hg3 hat3))
      have hb3 : Below w.heap.size w w2 := hb2.grown hg3 hb2.size (fun q hq => (hown2.lt q hq).1)
      have hown4 : SRow w2 9 v1 (R.map .string) := by
        rw [← HR.out]
        exact SRow.of_own (n := L.length + 1) (base := w.heap.size) (by simpa using hown3)
      clear hown3 hg3 hat3 hown2 hrd hb2 hown hbr
      go_ret
      exact ⟨_, rfl, hown4, hb3⟩
theorem ok_cases : ∀ x : UInt8, okByte x = ((decide (97 ≤ (low x).toNat) && decide ((low x).toNat ≤ 122)) || (decide (48 ≤ (low x).toNat) && decide ((low x).toNat ≤ 57)) || decide ((low x).toNat = 45)) := fun _ => rfl
set_option maxRecDepth 100000 in
set_option maxHeartbeats 1000000 in
theorem label_calls (x : ByteArray) (w : World) (hs : x.size ≤ 2147483647) :
    Calls Tryz.prog 37 #[.string x] w fun e w' => e = .returned (.bool (labelB x)) ∧ w = w' := by
  by_cases h1 : 1 ≤ x.size
  case neg =>
    have hR : labelB x = false := by unfold labelB; rw [dif_neg (by omega)]
    rw [hR]
    have hx : ¬ (1 ≤ x.size ∧ x.size ≤ 63) := by omega
    go_enter Tryz.func37, Tryz.ntmps37
    go_wp2
    go_ret
    exact ⟨rfl, rfl⟩
  by_cases h2 : x.size ≤ 63
  case neg =>
    have hR : labelB x = false := by unfold labelB; rw [dif_neg (by omega)]
    rw [hR]
    go_enter Tryz.func37, Tryz.ntmps37
    go_wp2
    go_ret
    exact ⟨rfl, rfl⟩
  have hR : labelB x = (decide (x[0].toNat ≠ 45) && decide (x[x.size - 1].toNat ≠ 45) && x.data.toList.all okByte) := by unfold labelB; rw [dif_pos ⟨h1, h2⟩]
  rw [hR]
  clear hR
  have hl1 : x.size - 1 < x.size := by omega
  have ua := (x[0]).toNat_lt
  have ub := (x[x.size - 1]).toNat_lt
  by_cases ha : x[0].toNat = 45
  · rw [decide_eq_false (fun h => h ha), Bool.false_and, Bool.false_and]
    have ha' : ((x[0].toNat : Int) == 45) = true := ib_eq (by omega)
    clear ha
    go_enter Tryz.func37, Tryz.ntmps37
    go_wp2
    go_ret
    exact ⟨rfl, rfl⟩
  rw [decide_eq_true ha, Bool.true_and]
  have ha' : ((x[0].toNat : Int) == 45) = false := ib_ne (by omega)
  by_cases hb : x[x.size - 1].toNat = 45
  · rw [decide_eq_false (fun h => h hb), Bool.false_and]
    have hb' : ((x[x.size - 1].toNat : Int) == 45) = true := ib_eq (by omega)
    clear ha hb
    go_enter Tryz.func37, Tryz.ntmps37
    go_wp2
    go_ret
    exact ⟨rfl, rfl⟩
  rw [decide_eq_true hb, Bool.true_and]
  have hb' : ((x[x.size - 1].toNat : Int) == 45) = false := ib_ne (by omega)
  have H0 := Lib.hid (show x.data.toList.all okByte = (x.data.toList.drop 0).all okByte from rfl)
  generalize x.data.toList.all okByte = R at *
  clear ha hb
  go_enter Tryz.func37, Tryz.ntmps37
  go_wp2
  go_loop [3] (fun i => ∃ k : Nat, i = .int .i64 k ∧ k ≤ x.size ∧ Hid (R = (x.data.toList.drop k).all okByte)) (fun i => x.size - (intOf i).toNat)
  case atStart => exact ⟨0, rfl, Nat.zero_le _, H0.out⟩
  case round =>
    obtain ⟨k, rfl, hk, hr⟩ := hrel
    clear H0
    by_cases hlt : k < x.size
    · have h := hr.out
      rw [drop_bytes x k hlt, List.all_cons, ok_cases] at h
      have u1 := (x[k]).toNat_lt
      have hlow := fun W => lower_calls x[k] W
      have u2 := (low x[k]).toNat_lt
      have HL := Lib.hid hlow
      clear hlow hr ha' hb' ua ub
      generalize hc : (low x[k]).toNat = c at *
      clear hc
      by_cases c1 : 97 ≤ c
      · by_cases c2 : c ≤ 122
        · have hb : ((decide (97 ≤ c) && decide (c ≤ 122)) || (decide (48 ≤ c) && decide (c ≤ 57)) || decide (c = 45)) = true := by simp; omega
          rw [hb, Bool.true_and] at h
          have hr2 := Lib.hid h
          clear h hb
          go_wp2_with (fail)
          refine (HL.out _).mono ?_
          rintro e w' ⟨rfl, rfl⟩
          go_wp2
          go_round
          case rel => exact ⟨k + 1, by go_num, by omega, hr2.out⟩
          case measure => simp only [intOf]; omega
        · have hb : ((decide (97 ≤ c) && decide (c ≤ 122)) || (decide (48 ≤ c) && decide (c ≤ 57)) || decide (c = 45)) = false := by simp; omega
          rw [hb, Bool.false_and] at h
          subst h
          clear hb
          go_wp2_with (fail)
          refine (HL.out _).mono ?_
          rintro e w' ⟨rfl, rfl⟩
          go_wp2
          all_goals first
            | (go_ret; exact ⟨rfl, rfl⟩)
            | (exfalso; rename_i hx; first | (rcases hx with (hx | hx) | hx <;> simp at hx <;> omega) | (rcases hx with hx | hx <;> simp at hx <;> omega))
      · by_cases c3 : 48 ≤ c
        · by_cases c4 : c ≤ 57
          · have hb : ((decide (97 ≤ c) && decide (c ≤ 122)) || (decide (48 ≤ c) && decide (c ≤ 57)) || decide (c = 45)) = true := by simp; omega
            rw [hb, Bool.true_and] at h
            have hr2 := Lib.hid h
            clear h hb
            go_wp2_with (fail)
            refine (HL.out _).mono ?_
            rintro e w' ⟨rfl, rfl⟩
            go_wp2
            go_round
            case rel => exact ⟨k + 1, by go_num, by omega, hr2.out⟩
            case measure => simp only [intOf]; omega
          · have hb : ((decide (97 ≤ c) && decide (c ≤ 122)) || (decide (48 ≤ c) && decide (c ≤ 57)) || decide (c = 45)) = false := by simp; omega
            rw [hb, Bool.false_and] at h
            subst h
            clear hb
            go_wp2_with (fail)
            refine (HL.out _).mono ?_
            rintro e w' ⟨rfl, rfl⟩
            go_wp2
            all_goals first
              | (go_ret; exact ⟨rfl, rfl⟩)
              | (exfalso; rename_i hx; first | (rcases hx with (hx | hx) | hx <;> simp at hx <;> omega) | (rcases hx with hx | hx <;> simp at hx <;> omega))
        · by_cases c5' : c = 45
          · have hb : ((decide (97 ≤ c) && decide (c ≤ 122)) || (decide (48 ≤ c) && decide (c ≤ 57)) || decide (c = 45)) = true := by simp; omega
            rw [hb, Bool.true_and] at h
            have hr2 := Lib.hid h
            clear h hb
            have c5 : ((c : Int) == 45) = true := ib_eq (by omega)
            clear c5'
            go_wp2_with (fail)
            refine (HL.out _).mono ?_
            rintro e w' ⟨rfl, rfl⟩
            go_wp2
            go_round
            case rel => exact ⟨k + 1, by go_num, by omega, hr2.out⟩
            case measure => simp only [intOf]; omega
          · have hb : ((decide (97 ≤ c) && decide (c ≤ 122)) || (decide (48 ≤ c) && decide (c ≤ 57)) || decide (c = 45)) = false := by simp; omega
            rw [hb, Bool.false_and] at h
            subst h
            clear hb
            have c5 : ((c : Int) == 45) = false := ib_ne (by omega)
            clear c5'
            go_wp2_with (fail)
            refine (HL.out _).mono ?_
            rintro e w' ⟨rfl, rfl⟩
            go_wp2
            go_ret
            exact ⟨rfl, rfl⟩
    · have h := hr.out
      obtain rfl : k = x.size := by omega
      rw [List.drop_eq_nil_of_le (by simp)] at h
      simp only [List.all_nil] at h
      subst h
      clear hr
      go_wp2
      go_ret
      exact ⟨rfl, rfl⟩
theorem cuts_len (s : ByteArray) : ∀ (m fr i : Nat), s.size - i = m → i ≤ s.size → (cuts s fr i).length ≤ s.size - i + 1 := by
  intro m
  induction m with
  | zero => intro fr i h hi; rw [cuts, dif_neg (by omega)]; simp
  | succ m ih =>
    intro fr i h hi
    rw [cuts, dif_pos (by omega)]
    split
    · have := ih (i + 1) (i + 1) (by omega) (by omega)
      simp; omega
    · have := ih fr (i + 1) (by omega) (by omega)
      omega
theorem cuts_sizes (s : ByteArray) : ∀ (m fr i : Nat), s.size - i = m → i ≤ s.size → ∀ x ∈ cuts s fr i, x.size ≤ s.size := by
  intro m
  induction m with
  | zero =>
    intro fr i h hi x hx
    rw [cuts, dif_neg (by omega)] at hx
    simp only [List.mem_singleton] at hx
    subst hx
    rw [cut_size s fr _ (Nat.le_refl _)]; omega
  | succ m ih =>
    intro fr i h hi x hx
    rw [cuts, dif_pos (by omega)] at hx
    split at hx
    · rcases List.mem_cons.1 hx with rfl | hx
      · rw [cut_size s fr i (by omega)]; omega
      · exact ih _ _ (by omega) (by omega) x hx
    · exact ih _ _ (by omega) (by omega) x hx
set_option maxRecDepth 100000 in
set_option maxHeartbeats 1000000 in
theorem nameOk_calls (s : ByteArray) (w : World) (hs : s.size ≤ 2147483647) :
    Calls Tryz.prog 13 #[.string s] w fun e w' => e = .returned (.bool (nameB s)) ∧ Below w.heap.size w w' := by
  have hlab := labels_calls s w hs
  have hne := cuts_ne s _ 0 0 rfl
  have hlen := cuts_len s _ 0 0 rfl (Nat.zero_le _)
  have hsz := cuts_sizes s _ 0 0 rfl (Nat.zero_le _)
  have hR : nameB s = ((cuts s 0 0).all labelB && decide (s.size ≤ 200) && alphaB ((cuts s 0 0).getLastD ByteArray.empty)) := rfl
  generalize nameB s = R at *
  generalize cuts s 0 0 = L at *
  have HR := Lib.hid hR
  clear hR
  have HL := Lib.hid hlab
  have HS := Lib.hid hsz
  have hl0 : 0 < L.length := List.length_pos_iff.2 hne
  clear hlab hsz hne
  go_enter Tryz.func13, Tryz.ntmps13
  go_wp2_with (fail)
  refine HL.out.mono ?_
  rintro e w1 ⟨v, rfl, hv, hb1⟩
  clear HL
  obtain ⟨g, cap, cur, rfl, hg, hlc, hcm, hls, hcell⟩ := hv.more (fun e => by have := congrArg List.length e; simp only [List.length_map, List.length_nil] at this; omega)
  rw [List.length_map] at hlc hls ⊢
  have HCell := Lib.hid hcell
  clear hcell hv
  go_wp2
  go_loop [11] (fun i => ∃ k : Nat, i = .int .i64 k ∧ k ≤ L.length ∧ Hid ((L.take k).all labelB = true)) (fun i => L.length - (intOf i).toNat)
  case atStart => exact ⟨0, rfl, Nat.zero_le _, rfl⟩
  case round =>
    obtain ⟨k, rfl, hk, hr⟩ := hrel
    by_cases hlt : k < L.length
    · have cx := hg.at_ k (HCell.out k (.string L[k]) (by simp [hlt]))
      have hlb := fun W => label_calls L[k] W (by have := HS.out _ (List.getElem_mem hlt); omega)
      cases hb : labelB L[k] with
      | false =>
        rw [hb] at hlb
        have HB := Lib.hid hlb
        have hall : L.all labelB = false := List.all_eq_false.2 ⟨L[k], List.getElem_mem hlt, by rw [hb]; decide⟩
        have hRf := HR.out
        rw [hall, Bool.false_and, Bool.false_and] at hRf
        clear HR
        subst hRf
        clear hlb hr hall hb
        go_wp2_with (fail)
        refine (HB.out _).mono ?_
        rintro e w' ⟨rfl, rfl⟩
        go_wp2
        go_ret
        exact ⟨rfl, hb1⟩
      | true =>
        rw [hb] at hlb
        have HB := Lib.hid hlb
        have hr2 : Hid ((L.take (k + 1)).all labelB = true) := by
          show (L.take (k + 1)).all labelB = true
          have h0 := hr.out
          rw [List.take_succ_eq_append_getElem hlt, List.all_append, h0]
          simp [hb]
        clear hlb hr hb
        go_wp2_with (fail)
        refine (HB.out _).mono ?_
        rintro e w' ⟨rfl, rfl⟩
        go_wp2
        go_round
        case rel => exact ⟨k + 1, by go_num, by omega, hr2⟩
        case measure => simp only [intOf]; omega
    · obtain rfl : k = L.length := by omega
      have hr1 := hr.out
      rw [List.take_length] at hr1
      have hll : L.length - 1 < L.length := by omega
      have cx := hg.at_ (L.length - 1) (HCell.out (L.length - 1) (.string L[L.length - 1]) (by simp))
      have hlast : L.getLastD ByteArray.empty = L[L.length - 1] := by
        rw [List.getLastD_eq_getLast?, List.getLast?_eq_getElem?, List.getElem?_eq_getElem hll]; rfl
      have hlb : labelB L[L.length - 1] = true := List.all_eq_true.1 hr1 _ (List.getElem_mem hll)
      have hx1 := (labelB_size hlb).1
      have hx2 := HS.out _ (List.getElem_mem hll)
      have hR1 := HR.out
      rw [hr1, Bool.true_and, hlast] at hR1
      clear hr hr1 hlb hlast HR
      generalize L[L.length - 1] = x at *
      have hal : alphaB x = decide (97 ≤ (low x[0]).toNat ∧ (low x[0]).toNat ≤ 122) := by unfold alphaB; rw [dif_pos (show 0 < x.size from hx1)]
      rw [hal] at hR1
      have u1 := (x[0]).toNat_lt
      have hlow := fun W => lower_calls x[0] W
      have u2 := (low x[0]).toNat_lt
      have HLo := Lib.hid hlow
      clear hlow hal
      generalize (low x[0]).toNat = c at *
      have hc : ((L.length : Int) - 1) = ((L.length - 1 : Nat) : Int) := by omega
      by_cases c0 : s.size ≤ 200
      · by_cases c1 : 97 ≤ c
        · by_cases c2 : c ≤ 122
          · have hv2 : R = true := by rw [hR1]; simp; omega
            clear hR1
            subst hv2
            go_wp2_with (fail)
            refine (HLo.out _).mono ?_
            rintro e w' ⟨rfl, rfl⟩
            go_wp2
            go_ret
            exact ⟨congrArg (fun b => Ending.returned (Value.bool b)) (decide_eq_true (by omega) : decide ((c : Int) ≤ 122) = true), hb1⟩
          · have hv2 : R = false := by rw [hR1]; simp; omega
            clear hR1
            subst hv2
            go_wp2_with (fail)
            refine (HLo.out _).mono ?_
            rintro e w' ⟨rfl, rfl⟩
            go_wp2
            go_ret
            exact ⟨congrArg (fun b => Ending.returned (Value.bool b)) (decide_eq_false (by omega) : decide ((c : Int) ≤ 122) = false), hb1⟩
        · have hv2 : R = false := by rw [hR1]; simp; omega
          clear hR1
          subst hv2
          go_wp2_with (fail)
          refine (HLo.out _).mono ?_
          rintro e w' ⟨rfl, rfl⟩
          go_wp2
          go_ret
          exact ⟨rfl, hb1⟩
      · have hv2 : R = false := by rw [hR1]; simp; omega
        clear hR1
        subst hv2
        go_wp2_with (fail)
        refine (HLo.out _).mono ?_
        rintro e w' ⟨rfl, rfl⟩
        go_wp2
        go_ret
        exact ⟨rfl, hb1⟩
end Go.Proofs.YtblabjfjhlablaaGreatDoor
