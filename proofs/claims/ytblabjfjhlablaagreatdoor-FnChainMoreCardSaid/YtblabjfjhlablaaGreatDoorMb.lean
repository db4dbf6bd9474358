/- The walks of spec's cut, atom, LocalOk and MailboxOk. -/
import Derived.Test.YtblabjfjhlablaaGreatDoorMp
import Derived.Lib.SlBytesConst
namespace Go.Proofs.YtblabjfjhlablaaGreatDoor
open Go.RowKit Nc
set_option maxRecDepth 100000 in
set_option maxHeartbeats 1000000 in
theorem cut_calls (s : ByteArray) (w : World) (hs : s.size ≤ 2147483647) :
    Calls Tryz.prog 41 #[.string s] w fun e w' => e = .returned (if cutOk s then .tuple #[.string (cutL s), .string (cutD s), .bool true] else .tuple #[.string ⟨#[]⟩, .string ⟨#[]⟩, .bool false]) ∧ Below w.heap.size w w' := by
  generalize hRV : (if cutOk s then Value.tuple #[.string (cutL s), .string (cutD s), .bool true] else .tuple #[.string ⟨#[]⟩, .string ⟨#[]⟩, .bool false]) = RV
  have HRV := Lib.hid hRV
  clear hRV
  go_enter Tryz.func41, Tryz.ntmps41
  go_wp2
  go_loop [5, 6, 7] (fun a m i => ∃ k : Nat, i = .int .i64 k ∧ k ≤ s.size ∧ a = .int .i64 (lastAt s k : Nat) ∧ m = .int .i64 (cntAt s k : Nat)) (fun _ _ i => s.size - (intOf i).toNat)
  case atStart => exact ⟨0, rfl, Nat.zero_le _, rfl, rfl⟩
  case round =>
    obtain ⟨k, rfl, hk, rfl, rfl⟩ := hrel
    have hc := cntAt_le s k
    by_cases hlt : k < s.size
    · have u1 := (s[k]).toNat_lt
      have e1 : cntAt s (k + 1) = if (s[k]).toNat = 64 then cntAt s k + 1 else cntAt s k := by rw [← byteAt_eq s k hlt]; rfl
      have e2 : lastAt s (k + 1) = if (s[k]).toNat = 64 then k else lastAt s k := by rw [← byteAt_eq s k hlt]; rfl
      by_cases hd : s[k].toNat = 64
      · rw [if_pos hd] at e1 e2
        have hd' : ((s[k].toNat : Int) == 64) = true := ib_eq (by omega)
        clear hd
        go_wp2
        go_round
        case rel => exact ⟨k + 1, by go_num, by omega, by rw [e2], by rw [e1]; go_num⟩
        case measure => simp only [intOf]; omega
      · rw [if_neg hd] at e1 e2
        have hd' : ((s[k].toNat : Int) == 64) = false := ib_ne (by omega)
        clear hd
        go_wp2
        go_round
        case rel => exact ⟨k + 1, by go_num, by omega, by rw [e2], by rw [e1]⟩
        case measure => simp only [intOf]; omega
    · obtain rfl : k = s.size := by omega
      have hv := HRV.out
      clear HRV
      have hll := lastAt_lt s s.size
      unfold cutOk cutL cutD at hv
      by_cases h1 : cntAt s s.size = 1
      · have hlt2 := hll (by omega)
        rw [decide_eq_true h1, if_pos rfl] at hv
        subst hv
        rw [h1]
        generalize ha : lastAt s s.size = a at *
        clear hll h1 hc
        go_wp2
        go_region
        all_goals go_wp2
        all_goals subst ha
        all_goals exact bodyPost_ret (v := .tuple #[.string (s.extract 0 (lastAt s s.size)), .string (s.extract (lastAt s s.size + 1) s.size), .bool true]) (by simp [results, Tryz.results41, go_sem]) rfl ⟨rfl, (Below.refl _ _).drew⟩
      · rw [decide_eq_false h1, if_neg (by decide)] at hv
        subst hv
        clear hll
        have h1' : ((cntAt s s.size : Int) == 1) = false := ib_ne (by omega)
        go_wp2
        exact bodyPost_ret (v := .tuple #[.string ⟨#[]⟩, .string ⟨#[]⟩, .bool false]) (by simp [results, Tryz.results41, go_sem]) rfl ⟨rfl, Below.refl _ _⟩
theorem marks_arr : (#[.int .u8 33, .int .u8 35, .int .u8 36, .int .u8 37, .int .u8 38, .int .u8 39, .int .u8 42, .int .u8 43, .int .u8 45, .int .u8 47, .int .u8 61, .int .u8 63, .int .u8 94, .int .u8 95, .int .u8 96, .int .u8 123, .int .u8 124, .int .u8 125, .int .u8 126] : Array Value) = (marks.map fun m => Value.int .u8 m.toNat).toArray := rfl
theorem marks_cells (k : Nat) (h : k < 19) : (#[.int .u8 33, .int .u8 35, .int .u8 36, .int .u8 37, .int .u8 38, .int .u8 39, .int .u8 42, .int .u8 43, .int .u8 45, .int .u8 47, .int .u8 61, .int .u8 63, .int .u8 94, .int .u8 95, .int .u8 96, .int .u8 123, .int .u8 124, .int .u8 125, .int .u8 126] : Array Value)[k]? = some (.int .u8 (marks.getD k 0).toNat) := by
  have hl : k < marks.length := h
  rw [marks_arr, List.getElem?_toArray, List.getElem?_map, List.getD_eq_getElem?_getD, List.getElem?_eq_getElem hl]
  rfl
set_option maxRecDepth 100000 in
set_option maxHeartbeats 1000000 in
theorem atom_calls (b : UInt8) (w : World) : Calls Tryz.prog 75 #[.int .u8 b.toNat] w fun e w' => e = .returned (.bool (atomB b)) ∧ Below w.heap.size w w' := by
  have u1 := b.toNat_lt
  have u2 := (low b).toNat_lt
  have hlo := Lib.hid (fun W => lower_calls b W)
  generalize hRV : atomB b = R
  have HRV := Lib.hid hRV
  clear hRV
  have hal : alnum b = ((decide (97 ≤ (low b).toNat) && decide ((low b).toNat ≤ 122)) || (decide (48 ≤ (low b).toNat) && decide ((low b).toNat ≤ 57))) := rfl
  cases ha : alnum b with
  | true =>
    have hv := HRV.out
    unfold atomB at hv
    rw [ha, Bool.true_or] at hv
    subst hv
    rw [ha] at hal
    generalize (low b).toNat = c at *
    have hcase : (97 ≤ c ∧ c ≤ 122) ∨ (48 ≤ c ∧ c ≤ 57) := by simpa using hal.symm
    clear hal ha HRV
    rcases hcase with ⟨c1, c2⟩ | ⟨c1, c2⟩
    · go_enter Tryz.func75, Tryz.ntmps75
      go_wp2_with (fail)
      refine (hlo.out _).mono ?_
      rintro e w1 ⟨rfl, rfl⟩
      go_wp2
      go_ret
      exact ⟨rfl, Below.refl _ _⟩
    · have c3 : ¬ 97 ≤ c := by omega
      go_enter Tryz.func75, Tryz.ntmps75
      go_wp2_with (fail)
      refine (hlo.out _).mono ?_
      rintro e w1 ⟨rfl, rfl⟩
      go_wp2
      go_ret
      exact ⟨rfl, Below.refl _ _⟩
  | false =>
    have hv := HRV.out
    unfold atomB at hv
    rw [ha, Bool.false_or] at hv
    have HV := Lib.hid hv
    rw [ha] at hal
    generalize (low b).toNat = c at *
    have hno : ¬ (97 ≤ c ∧ c ≤ 122) ∧ ¬ (48 ≤ c ∧ c ≤ 57) := by simpa using hal.symm
    have hb1 : Below w.heap.size w (w.alloc (.cells #[.int .u8 33, .int .u8 35, .int .u8 36, .int .u8 37, .int .u8 38, .int .u8 39, .int .u8 42, .int .u8 43, .int .u8 45, .int .u8 47, .int .u8 61, .int .u8 63, .int .u8 94, .int .u8 95, .int .u8 96, .int .u8 123, .int .u8 124, .int .u8 125, .int .u8 126] 5 (19, 20))) := (Below.refl _ _).alloc (Nat.le_refl _) _
    have hcv : (convert 43 43 (.slice (some ⟨w.heap.size, 0, none⟩) 19 19)).run Tryz.prog (w.alloc (.cells #[.int .u8 33, .int .u8 35, .int .u8 36, .int .u8 37, .int .u8 38, .int .u8 39, .int .u8 42, .int .u8 43, .int .u8 45, .int .u8 47, .int .u8 61, .int .u8 63, .int .u8 94, .int .u8 95, .int .u8 96, .int .u8 123, .int .u8 124, .int .u8 125, .int .u8 126] 5)) = .ok (.slice (some ⟨w.heap.size, 0, none⟩) 19 19) (w.alloc (.cells #[.int .u8 33, .int .u8 35, .int .u8 36, .int .u8 37, .int .u8 38, .int .u8 39, .int .u8 42, .int .u8 43, .int .u8 45, .int .u8 47, .int .u8 61, .int .u8 63, .int .u8 94, .int .u8 95, .int .u8 96, .int .u8 123, .int .u8 124, .int .u8 125, .int .u8 126] 5 (19, 20))) := Lib.run_convert_bytes_const w 43 5 #[.int .u8 33, .int .u8 35, .int .u8 36, .int .u8 37, .int .u8 38, .int .u8 39, .int .u8 42, .int .u8 43, .int .u8 45, .int .u8 47, .int .u8 61, .int .u8 63, .int .u8 94, .int .u8 95, .int .u8 96, .int .u8 123, .int .u8 124, .int .u8 125, .int .u8 126] 19 19 Tryz.underlying43 Tryz.underlying5
    have hcell : ∀ k, k < 19 → (w.alloc (.cells #[.int .u8 33, .int .u8 35, .int .u8 36, .int .u8 37, .int .u8 38, .int .u8 39, .int .u8 42, .int .u8 43, .int .u8 45, .int .u8 47, .int .u8 61, .int .u8 63, .int .u8 94, .int .u8 95, .int .u8 96, .int .u8 123, .int .u8 124, .int .u8 125, .int .u8 126] 5 (19, 20))).cell? ⟨w.heap.size, k, none⟩ = some (.int .u8 (marks.getD k 0).toNat) := fun k hk => by
      rw [← marks_cells k hk]
      unfold World.cell?
      show (match (w.heap.push _)[w.heap.size]? with | some (.cells cs _ _) => cs[k]? | _ => none) = _
      rw [Array.getElem?_push_size]
    have HC := Lib.hid hcell
    have HN := Lib.hid hno
    have HB1 := Lib.hid hb1
    clear hal ha HRV hv hcell hb1
    have hcase : (97 ≤ c ∧ ¬ c ≤ 122) ∨ (¬ 97 ≤ c ∧ ¬ 48 ≤ c) ∨ (¬ 97 ≤ c ∧ 48 ≤ c ∧ ¬ c ≤ 57) := by omega
    clear hno HN
    rcases hcase with ⟨c1, c2⟩ | ⟨c1, c2⟩ | ⟨c1, c2, c3⟩
    all_goals (
      go_enter Tryz.func75, Tryz.ntmps75
      go_wp2_with (fail)
      refine (hlo.out _).mono ?_
      rintro e w1 ⟨rfl, rfl⟩
      go_wp2
      go_loop [25] (fun i => ∃ k : Nat, i = .int .i64 k ∧ k ≤ 19 ∧ Hid (∀ j, j < k → marks.getD j 0 ≠ b)) (fun i => 19 - (intOf i).toNat)
      case atStart => exact ⟨0, rfl, Nat.zero_le _, fun j h => absurd h (Nat.not_lt_zero _)⟩
      case round =>
        obtain ⟨k, rfl, hk, hne⟩ := hrel
        by_cases hlt : k < 19
        · have cx := HC.out k hlt
          have hm : (marks.getD k 0).toNat < 256 := (marks.getD k 0).toNat_lt
          by_cases he : marks.getD k 0 = b
          · have hv := HV.out
            have hin : marks.contains b = true := by
              rw [List.contains_iff_mem, ← he, List.getD_eq_getElem?_getD, List.getElem?_eq_getElem (show k < marks.length from hlt)]
              exact List.getElem_mem _
            rw [hin] at hv
            subst hv
            have hd' : (((b.toNat : Nat) : Int) == ((marks.getD k 0).toNat : Nat)) = true := ib_eq (by rw [he])
            clear he hcv HV hin HC
            generalize (marks.getD k 0).toNat = mx at *
            go_wp2
            go_ret
            exact ⟨rfl, HB1.out⟩
          · have hd' : (((b.toNat : Nat) : Int) == ((marks.getD k 0).toNat : Nat)) = false := ib_ne (fun e => he (UInt8.toNat_inj.1 (by omega)))
            have hne2 : Hid (∀ j, j < k + 1 → marks.getD j 0 ≠ b) := fun j hj => by
              rcases Nat.lt_or_eq_of_le (Nat.le_of_lt_succ hj) with h | h
              · exact hne.out j h
              · subst h; exact he
            clear he hcv
            generalize (marks.getD k 0).toNat = mx at *
            go_wp2
            go_round
            case rel => exact ⟨k + 1, by go_num, by omega, hne2⟩
            case measure => simp only [intOf]; omega
        · obtain rfl : k = 19 := by omega
          have hv := HV.out
          have hin : marks.contains b = false := by
            rw [Bool.eq_false_iff]
            intro hc
            rw [List.contains_iff_mem] at hc
            obtain ⟨j, hj, e⟩ := List.getElem_of_mem hc
            have h2 : marks.getD j 0 = b := by rw [List.getD_eq_getElem?_getD, List.getElem?_eq_getElem hj]; exact e
            exact hne.out j hj h2
          rw [hin] at hv
          subst hv
          clear hcv HV hin
          go_wp2
          go_ret
          exact ⟨rfl, HB1.out⟩)
set_option maxRecDepth 100000 in
set_option maxHeartbeats 1000000 in
theorem localOk_calls (s : ByteArray) (w : World) (hs : s.size ≤ 2147483647) :
    Calls Tryz.prog 42 #[.string s] w fun e w' => e = .returned (.bool (localB s)) ∧ Below w.heap.size w w' := by
  have hlab := labels_calls s w hs
  have hlen := cuts_len s _ 0 0 rfl (Nat.zero_le _)
  have hsz := cuts_sizes s _ 0 0 rfl (Nat.zero_le _)
  have hne := cuts_ne s _ 0 0 rfl
  have hR : localB s = ((cuts s 0 0).all wordB && decide (s.size ≤ 100)) := rfl
  generalize localB s = R at *
  generalize cuts s 0 0 = L at *
  have HR := Lib.hid hR
  have HL := Lib.hid hlab
  have HS := Lib.hid hsz
  have hl0 : 0 < L.length := List.length_pos_iff.2 hne
  have HA := Lib.hid (fun (b : UInt8) (W : World) => atom_calls b W)
  clear hR hlab hsz hne
  go_enter Tryz.func42, Tryz.ntmps42
  go_wp2_with (fail)
  refine HL.out.mono ?_
  rintro e w1 ⟨v, rfl, hv, hb1⟩
  clear HL
  obtain ⟨g, cap, cur, rfl, hg, hlc, hcm, hls, hcell⟩ := hv.more (fun e => by have := congrArg List.length e; simp only [List.length_map, List.length_nil] at this; omega)
  rw [List.length_map] at hlc hls ⊢
  have HCell := Lib.hid hcell
  clear hcell hv
  go_wp2
  go_loopw [9] (fun i wr => ∃ k : Nat, i = .int .i64 k ∧ k ≤ L.length ∧ Below w.heap.size w wr ∧ Blk wr g 9 cur ∧ Hid ((L.take k).all wordB = true)) (fun i _ => L.length - (intOf i).toNat)
  case atStart => exact ⟨0, rfl, Nat.zero_le _, hb1, hg, rfl⟩
  case round =>
    obtain ⟨k, rfl, hk, hbr, hgr, hr⟩ := hrel
    clear hb1 hg
    by_cases hlt : k < L.length
    · have cx := hgr.at_ k (HCell.out k (.string L[k]) (by simp [hlt]))
      have hx2 := HS.out _ (List.getElem_mem hlt)
      have hword : wordB L[k] = (decide (0 < L[k].size) && L[k].data.toList.all atomB) := rfl
      have htake : wordB L[k] = true → Hid ((L.take (k + 1)).all wordB = true) := fun hw => by
        show (L.take (k + 1)).all wordB = true
        rw [List.take_succ_eq_append_getElem hlt, List.all_append, hr.out]
        simp [hw]
      have hbad : wordB L[k] = false → R = false := fun hw => by
        rw [HR.out, List.all_eq_false.2 ⟨L[k], List.getElem_mem hlt, by rw [hw]; decide⟩]; rfl
      have HW := Lib.hid hword
      have HT := Lib.hid htake
      have HB := Lib.hid hbad
      clear hword htake hbad hr
      generalize L[k] = x at *
      by_cases h0 : x.size = 0
      · have hv2 := HB.out (by rw [HW.out, decide_eq_false (by omega)]; rfl)
        have he : x.toList.isEmpty = true := by
          rw [ByteArray.toList_eq, List.isEmpty_iff]
          exact List.eq_nil_of_length_eq_zero h0
        clear HB HW HT HR h0
        subst hv2
        go_wp2
        go_ret
        exact ⟨rfl, hbr⟩
      · have he : x.toList.isEmpty = false := by
          rw [ByteArray.toList_eq, List.isEmpty_eq_false_iff]
          exact fun e => h0 (by have := congrArg List.length e; simpa using this)
        have HI : Hid ((x.data.toList.take 0).all atomB = true) := rfl
        have h0' : 0 < x.size := by omega
        clear h0
        go_wp2
        go_loopw [5] (fun i wq => ∃ m : Nat, i = .int .i64 m ∧ m ≤ x.size ∧ Below w.heap.size w wq ∧ Blk wq g 9 cur ∧ Hid ((x.data.toList.take m).all atomB = true)) (fun i _ => x.size - (intOf i).toNat)
        case atStart => exact ⟨0, rfl, Nat.zero_le _, hbr, hgr, HI.out⟩
        case round =>
          obtain ⟨m, rfl, hm, hbq, hgq, hi⟩ := hrel
          clear HI hbr hgr cx
          by_cases hmt : m < x.size
          · have hxm : x.data.toList.take (m + 1) = x.data.toList.take m ++ [x[m]] := by
              rw [List.take_succ_eq_append_getElem (by simpa using hmt)]; rfl
            have hmem : x[m] ∈ x.data.toList := List.getElem_mem (l := x.data.toList) (n := m) (by simpa using hmt)
            have hc := fun W => HA.out x[m] W
            have u1 := (x[m]).toNat_lt
            cases hat : atomB x[m] with
            | false =>
              have hv2 := HB.out (by rw [HW.out, List.all_eq_false.2 ⟨x[m], hmem, by rw [hat]; decide⟩, Bool.and_false])
              rw [hat] at hc
              have HC := Lib.hid hc
              clear HB HW HT HR hc hi hxm hmem hat
              subst hv2
              go_wp2_with (fail)
              refine (HC.out _).mono ?_
              rintro e w' ⟨rfl, hb⟩
              go_wp2
              go_ret
              exact ⟨rfl, hbq.trans (hb.mono hbq.size)⟩
            | true =>
              have hi2 : Hid ((x.data.toList.take (m + 1)).all atomB = true) := by
                show (x.data.toList.take (m + 1)).all atomB = true
                rw [hxm, List.all_append, hi.out]
                simp [hat]
              rw [hat] at hc
              have HC := Lib.hid hc
              clear hc hi hxm hmem hat
              go_wp2_with (fail)
              refine (HC.out _).mono ?_
              rintro e w' ⟨rfl, hb⟩
              have hgq2 := hgq.later hb
              have hbq2 := hbq.trans (hb.mono hbq.size)
              clear hb hgq hbq
              go_wp2
              go_roundw
              case rel => exact ⟨m + 1, by go_num, by omega, hbq2, hgq2, hi2⟩
              case measure => simp only [intOf]; omega
          · obtain rfl : m = x.size := by omega
            have hi1 := hi.out
            have e2 : x.data.toList.length = x.size := rfl
            rw [← e2, List.take_length] at hi1
            have HT2 := HT.out (by rw [HW.out, hi1, decide_eq_true h0']; rfl)
            clear hi hi1 e2 HT HW HB
            go_wp2
            go_roundw
            case rel => exact ⟨k + 1, by go_num, by omega, hbq, hgq, HT2⟩
            case measure => simp only [intOf]; omega
    · obtain rfl : k = L.length := by omega
      have hr1 := hr.out
      rw [List.take_length] at hr1
      have hR1 := HR.out
      rw [hr1, Bool.true_and] at hR1
      clear hr hr1 HR
      by_cases h1 : s.size ≤ 100
      · rw [decide_eq_true h1] at hR1
        subst hR1
        go_wp2
        go_ret
        exact ⟨congrArg (fun b => Ending.returned (Value.bool b)) (decide_eq_true (by omega) : decide ((s.size : Int) ≤ 100) = true), hbr⟩
      · rw [decide_eq_false h1] at hR1
        subst hR1
        go_wp2
        go_ret
        exact ⟨congrArg (fun b => Ending.returned (Value.bool b)) (decide_eq_false (by omega) : decide ((s.size : Int) ≤ 100) = false), hbr⟩
theorem cutL_le (s : ByteArray) : (cutL s).size ≤ s.size := by
  unfold cutL
  have := lastAt_le s s.size
  rw [cut_size s 0 _ this]
  omega
theorem cutD_le (s : ByteArray) : (cutD s).size ≤ s.size := by
  unfold cutD
  rw [cut_size s _ _ (Nat.le_refl _)]
  omega
set_option maxRecDepth 100000 in
set_option maxHeartbeats 1000000 in
theorem mailboxOk_calls (s : ByteArray) (w : World) (hs : s.size ≤ 2147483647) :
    Calls Tryz.prog 16 #[.string s] w fun e w' => e = .returned (.bool (boxB s)) ∧ Below w.heap.size w w' := by
  have hl := cutL_le s
  have hd := cutD_le s
  have H0 := Lib.hid (cut_calls s w hs)
  have H1 := Lib.hid (fun W => localOk_calls (cutL s) W (by omega))
  have H2 := Lib.hid (fun W => nameOk_calls (cutD s) W (by omega))
  have HR := Lib.hid (show boxB s = (cutOk s && localB (cutL s) && nameB (cutD s)) from rfl)
  generalize boxB s = R at *
  generalize cutL s = A at *
  generalize cutD s = D at *
  generalize localB A = LB at *
  generalize nameB D = NB at *
  cases hco : cutOk s with
  | false =>
    rw [hco] at H0 HR
    have hv := HR.out
    simp only [Bool.false_and] at hv
    subst hv
    clear H1 H2 HR hco
    go_enter Tryz.func16, Tryz.ntmps16
    go_wp2_with (fail)
    refine H0.out.mono ?_
    rintro e w1 ⟨rfl, hb⟩
    go_wp2
    go_ret
    exact ⟨rfl, hb⟩
  | true =>
    rw [hco] at H0 HR
    have hv := HR.out
    rw [Bool.true_and] at hv
    clear hco HR
    cases LB with
    | false =>
      rw [Bool.false_and] at hv
      subst hv
      clear H2
      go_enter Tryz.func16, Tryz.ntmps16
      go_wp2_with (fail)
      refine H0.out.mono ?_
      rintro e w1 ⟨rfl, hb⟩
      go_wp2_with (fail)
      refine (H1.out _).mono ?_
      rintro e w2 ⟨rfl, hb2⟩
      go_wp2
      go_ret
      exact ⟨rfl, hb.trans (hb2.mono hb.size)⟩
    | true =>
      rw [Bool.true_and] at hv
      subst hv
      go_enter Tryz.func16, Tryz.ntmps16
      go_wp2_with (fail)
      refine H0.out.mono ?_
      rintro e w1 ⟨rfl, hb⟩
      go_wp2_with (fail)
      refine (H1.out _).mono ?_
      rintro e w2 ⟨rfl, hb2⟩
      go_wp2_with (fail)
      refine (H2.out _).mono ?_
      rintro e w3 ⟨rfl, hb3⟩
      have hbb := hb.trans (hb2.mono hb.size)
      have hbc := hbb.trans (hb3.mono hbb.size)
      clear hb hb2 hb3 hbb H0 H1 H2
      go_wp2
      go_ret
      exact ⟨rfl, hbc⟩
end Go.Proofs.YtblabjfjhlablaaGreatDoor
