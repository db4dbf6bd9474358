/- The walks of spec's Lower, Same, Under, SubOk, DNS, URI, Mail. -/
import Derived.Test.YtblabjfjhlablaaGreatDoorS6
import Derived.Test.YtblabjfjhlablaaGreatDoorLc
namespace Go.Proofs.YtblabjfjhlablaaGreatDoor
open Go.RowKit Go.Sort Nc
def lowL (s : ByteArray) : List UInt8 := s.data.toList.map low
theorem lowL_s (s : ByteArray) : (⟨(lowL s).toArray⟩ : ByteArray) = lowS s := by
  apply ByteArray.ext
  rw [lowS_data]
  apply Array.toList_inj.1
  simp [lowL]
theorem lowL_len (s : ByteArray) : (lowL s).length = s.size := by simp [lowL]
theorem beq_bytes (x y : ByteArray) : (x.toList == y.toList) = decide (x = y) := by
  rw [ByteArray.toList_eq, ByteArray.toList_eq, Bool.eq_iff_iff, beq_iff_eq, decide_eq_true_eq]
  exact ⟨fun h => ByteArray.ext (Array.toList_inj.1 h), fun h => by rw [h]⟩
theorem lowL_at (s : ByteArray) (k : Nat) (h : k < s.size) (h2 : k < (lowL s).length) : (lowL s)[k] = low s[k] := by
  simp [lowL]; rfl
set_option maxRecDepth 100000 in
set_option maxHeartbeats 1000000 in
theorem lowerS_calls (s : ByteArray) (w : World) (hs : s.size ≤ 2147483647) :
    Calls Tryz.prog 160 #[.string s] w fun e w' => e = .returned (.string (lowS s)) ∧ Below w.heap.size w w' := by
  obtain ⟨i0, hi0, hz0, hz1, hz2⟩ := info_parts u8_zero_info
  have hw0 : Below w.heap.size w (w.alloc (.cells #[] 5)) := (Below.refl _ _).alloc (Nat.le_refl _) _
  have ho0 : (w.alloc (.cells #[] 5)).ownsRow w.heap.size 5 1 (.slice (some ⟨w.heap.size, 0, none⟩) 0 0) 0 (((lowL s).take 0).map b8) := empty_own w 5
  have H0 := Lib.hid (And.intro hw0 ho0)
  have hLL := lowL_len s
  have HAT := Lib.hid (lowL_at s)
  have HS := Lib.hid (lowL_s s)
  generalize lowL s = L at *
  generalize lowS s = R at *
  have HLL := Lib.hid hLL
  clear hw0 ho0 hLL
  go_enter Tryz.func160, Tryz.ntmps160
  go_wp2
  go_loopw [3, 4] (fun o i wr => ∃ k : Nat, i = .int .i64 k ∧ k ≤ s.size ∧ Below w.heap.size w wr ∧ wr.ownsRow w.heap.size 5 1 o k ((L.take k).map b8)) (fun _ i _ => s.size - (intOf i).toNat)
  case atStart => exact ⟨0, rfl, Nat.zero_le _, H0.out.1, H0.out.2⟩
  case round =>
    obtain ⟨k, rfl, hk, hbr, hown⟩ := hrel
    clear H0
    by_cases hlt : k < s.size
    · have hkl : k < L.length := by rw [HLL.out]; exact hlt
      have hc := lower_calls s[k] wr
      have hlow := HAT.out k hlt hkl
      have htk : Hid ((L.take (k + 1)).map b8 = (L.take k).map b8 ++ [.int .u8 ((low s[k]).toNat : Int)]) := by
        show _ = _
        rw [List.take_succ_eq_append_getElem hkl, List.map_append, hlow]; rfl
      clear hlow
      have HC := Lib.hid hc
      clear hc
      generalize (low s[k]).toNat = y at *
      have u1 := (s[k]).toNat_lt
      have hb2 := hbr.alloc hbr.size (.cells #[.int .u8 (y : Int)] 5)
      have hown2 := hown.alloc (.cells #[.int .u8 (y : Int)] 5)
      have hrd := one_rd wr 5 (.int .u8 (y : Int))
      go_wp2_with (first
        | (go_at_call 38; (with_reducible refine HC.out.mono ?_); rintro e wx ⟨rfl, rfl⟩)
        | (at_builtin
           refine wpList_append_any _ rfl _ (.tmp 17) _ rfl w.heap.size 5 i0 _ 1 1 Tryz.underlying43 hi0 hz0 hz1 hz2 rfl (by omega) u3 k _ rfl hown2 (wr.heap.size + 1) (some ⟨wr.heap.size, 0, none⟩) 1 1 _ rfl hrd (by simp [Value.oneCell']) (by simp only [maxLen]; omega) (by omega) hb2.size ?_
           intro v3 w3 hown3 hg3 hat3)
        | fail)
      have hb3 := hb2.grown hg3 hb2.size (fun q hq => (hown2.lt q hq).1)
      have hrow : w3.ownsRow w.heap.size 5 1 v3 (k + 1) ((L.take (k + 1)).map b8) := by
        rw [htk.out]; exact hown3
      clear hat3 hg3 hown3 hown2 hrd hb2 htk
      go_wp2
      go_roundw
      case rel => exact ⟨k + 1, by go_num, by omega, hb3, hrow⟩
      case measure => simp only [intOf]; omega
    · obtain rfl : k = s.size := by omega
      rw [List.take_of_length_le (by rw [HLL.out]; exact Nat.le_refl _)] at hown
      have hcv := conv_own hown HLL.out.symm
      rw [HS.out] at hcv
      go_wp2
      go_ret
      exact ⟨rfl, hbr⟩
set_option maxRecDepth 100000 in
theorem same_calls (a b : ByteArray) (w : World) (ha : a.size ≤ 2147483647) (hb : b.size ≤ 2147483647) :
    Calls Tryz.prog 130 #[.string a, .string b] w fun e w' => e = .returned (.bool (sameB a b)) ∧ Below w.heap.size w w' := by
  have H1 := Lib.hid (lowerS_calls a w ha)
  have H2 := Lib.hid (fun W => lowerS_calls b W hb)
  unfold sameB
  generalize lowS a = x at *
  generalize lowS b = y at *
  go_enter Tryz.func130, Tryz.ntmps130
  go_wp2_with (first
    | (go_at_call 160; (with_reducible refine H1.out.mono ?_); rintro e w1 ⟨rfl, b1⟩; clear H1)
    | (go_at_call 160; (with_reducible refine (H2.out _).mono ?_); rintro e w2 ⟨rfl, b2⟩; have B2 := b1.trans (b2.mono b1.size))
    | fail)
  go_ret
  exact ⟨by rw [← beq_bytes]; rfl, B2⟩
theorem under_eq {s d : ByteArray} (h : d.size + 1 < s.size) : underB s d = (decide (s[s.size - d.size - 1].toNat = 46) && sameB (s.extract (s.size - d.size) s.size) d) := by
  unfold underB
  rw [dif_pos h]
set_option maxRecDepth 100000 in
theorem under_calls (s d : ByteArray) (w : World) (hs : s.size ≤ 2147483647) (hd : d.size ≤ 2147483647) :
    Calls Tryz.prog 131 #[.string s, .string d] w fun e w' => e = .returned (.bool (underB s d)) ∧ Below w.heap.size w w' := by
  have y1 : IntKind.i64.wrap ((s.size : Int) - (d.size : Int)) = (s.size : Int) - (d.size : Int) := Go.IntWalk.i64_in _ (by omega)
  by_cases h : d.size + 1 < s.size
  case neg =>
    have hu : underB s d = false := by unfold underB; rw [dif_neg h]
    rw [hu]
    have y2 : decide ((1 : Int) < (s.size : Int) - (d.size : Int)) = false := decide_eq_false (by omega)
    go_enter Tryz.func131, Tryz.ntmps131
    go_wp2
    go_ret
    exact ⟨rfl, Below.refl _ _⟩
  rw [under_eq h]
  have hx := Lib.hid (same_calls (s.extract (s.size - d.size) s.size) d w (by simp; omega) hd)
  have hm1 : s.size - d.size - 1 < s.size := by omega
  generalize sameB (s.extract (s.size - d.size) s.size) d = R at *
  have u1 := (s[s.size - d.size - 1]).toNat_lt
  by_cases hb : (s[s.size - d.size - 1]).toNat = 46
  · have hb' : ((s[s.size - d.size - 1].toNat : Int) == 46) = true := ib_eq (by omega)
    rw [decide_eq_true hb, Bool.true_and]
    clear hb
    go_enter Tryz.func131, Tryz.ntmps131
    go_wp2_with (first
      | (go_at_call 130; (with_reducible refine hx.out.mono ?_); rintro e w1 ⟨rfl, b1⟩)
      | fail)
    go_ret
    exact ⟨rfl, b1⟩
  · have hb' : ((s[s.size - d.size - 1].toNat : Int) == 46) = false := ib_ne (by omega)
    rw [decide_eq_false hb, Bool.false_and]
    clear hb
    go_enter Tryz.func131, Tryz.ntmps131
    go_wp2
    go_ret
    exact ⟨rfl, Below.refl _ _⟩
set_option maxRecDepth 100000 in
theorem subOk_calls (c : ByteArray) (w : World) (hs : c.size ≤ 2147483647) :
    Calls Tryz.prog 134 #[.string c] w fun e w' => e = .returned (.bool (subB c)) ∧ Below w.heap.size w w' := by
  by_cases h : 1 < c.size
  case neg =>
    have hu : subB c = false := by unfold subB dotB; rw [dif_neg h]; rfl
    rw [hu]
    go_enter Tryz.func134, Tryz.ntmps134
    go_wp2
    go_ret
    exact ⟨rfl, Below.refl _ _⟩
  have hx := Lib.hid (nameOk_calls (c.extract 1 c.size) w (by simp; omega))
  have hu : subB c = (decide (c[0].toNat = 46) && nameB (c.extract 1 c.size)) := by unfold subB dotB; rw [dif_pos h]
  rw [hu]
  clear hu
  generalize nameB (c.extract 1 c.size) = R at *
  have u1 := (c[0]).toNat_lt
  by_cases hb : (c[0]).toNat = 46
  · have hb' : ((c[0].toNat : Int) == 46) = true := ib_eq (by omega)
    rw [decide_eq_true hb, Bool.true_and]
    clear hb
    go_enter Tryz.func134, Tryz.ntmps134
    go_wp2_with (first
      | (go_at_call 13; (with_reducible refine hx.out.mono ?_); rintro e w1 ⟨rfl, b1⟩)
      | fail)
    go_ret
    exact ⟨rfl, b1⟩
  · have hb' : ((c[0].toNat : Int) == 46) = false := ib_ne (by omega)
    rw [decide_eq_false hb, Bool.false_and]
    clear hb
    go_enter Tryz.func134, Tryz.ntmps134
    go_wp2
    go_ret
    exact ⟨rfl, Below.refl _ _⟩
end Go.Proofs.YtblabjfjhlablaaGreatDoor
/- The walks of spec's DNS, URI, Mail and Cut. -/
namespace Go.Proofs.YtblabjfjhlablaaGreatDoor
open Go.RowKit Go.Sort Nc
theorem empty_bytes (c : ByteArray) : c.toList.isEmpty = decide (c.size = 0) := by
  rw [ByteArray.toList_eq, Bool.eq_iff_iff, List.isEmpty_iff, decide_eq_true_eq]
  constructor
  · intro h
    have : c.data.toList.length = 0 := by rw [h]; rfl
    exact this
  · intro h
    exact List.eq_nil_of_length_eq_zero h
set_option maxRecDepth 100000 in
theorem specDns_calls (c s : ByteArray) (w : World) (hc : c.size ≤ 2147483647) (hs : s.size ≤ 2147483647) :
    Calls Tryz.prog 91 #[.string c, .string s] w fun e w' => e = .returned (.int .i64 (dnsR c s : Nat)) ∧ Below w.heap.size w w' := by
  have h1 := Lib.hid (nameOk_calls c w hc)
  have h2 := Lib.hid (fun W => same_calls s c W hs hc)
  have h3 := Lib.hid (fun W => under_calls s c W hs hc)
  have hE := empty_bytes c
  unfold dnsR
  by_cases h0 : c.size = 0
  · rw [decide_eq_true h0] at hE
    rw [if_pos h0]
    clear h0 h1 h2 h3
    go_enter Tryz.func91, Tryz.ntmps91
    go_wp2
    go_ret
    exact ⟨rfl, Below.refl _ _⟩
  · rw [decide_eq_false h0] at hE
    rw [if_neg h0]
    clear h0
    generalize nameB c = N at *
    generalize sameB s c = S at *
    generalize underB s c = U at *
    cases N
    all_goals cases S
    all_goals go_enter Tryz.func91, Tryz.ntmps91
    all_goals go_wp2_with (first
      | (go_at_call 13; (with_reducible refine h1.out.mono ?_); rintro e w1 ⟨rfl, b1⟩)
      | (go_at_call 130; (with_reducible refine (h2.out _).mono ?_); rintro e w2 ⟨rfl, b2⟩; have B2 := b1.trans (b2.mono b1.size))
      | (go_at_call 131; (with_reducible refine (h3.out _).mono ?_); rintro e w3 ⟨rfl, b3⟩; have B3 := B2.trans (b3.mono B2.size))
      | fail)
    all_goals go_ret
    all_goals first
      | exact ⟨by simp [*], B3⟩
      | exact ⟨by simp [*], B2⟩
      | exact ⟨by simp [*], b1⟩
set_option maxRecDepth 100000 in
theorem specUri_calls (c s : ByteArray) (w : World) (hc : c.size ≤ 2147483647) (hs : s.size ≤ 2147483647) :
    Calls Tryz.prog 95 #[.string c, .string s] w fun e w' => e = .returned (.int .i64 (uriR c s : Nat)) ∧ Below w.heap.size w w' := by
  have h0 := Lib.hid (subOk_calls c w hc)
  have h1 := Lib.hid (fun W => nameOk_calls c W hc)
  have h2 := Lib.hid (fun W => same_calls s c W hs hc)
  have h3 := Lib.hid (fun W => under_calls s c W hs hc)
  have h4 := Lib.hid (fun W => under_calls s (c.extract 1 c.size) W hs (by simp; omega))
  have hdot : subB c = true → 1 < c.size := fun h => by
    unfold subB dotB at h
    by_cases h1 : 1 < c.size
    · exact h1
    · rw [dif_neg h1] at h; cases h
  unfold uriR
  generalize subB c = B at *
  generalize nameB c = N at *
  generalize sameB s c = S at *
  generalize underB s c = U at *
  generalize underB s (c.extract 1 c.size) = V at *
  cases B with
  | true =>
    have hlt := hdot rfl
    clear hdot
    cases V
    all_goals go_enter Tryz.func95, Tryz.ntmps95
    all_goals go_wp2_with (first
      | (go_at_call 134; (with_reducible refine h0.out.mono ?_); rintro e w1 ⟨rfl, b1⟩)
      | (go_at_call 131; (with_reducible refine (h4.out _).mono ?_); rintro e w2 ⟨rfl, b2⟩; have B2 := b1.trans (b2.mono b1.size))
      | fail)
    all_goals go_ret
    all_goals first
      | exact ⟨by simp [*], B2⟩
      | exact ⟨by simp [*], b1⟩
  | false =>
    clear hdot
    cases N
    all_goals cases U
    all_goals cases S
    all_goals go_enter Tryz.func95, Tryz.ntmps95
    all_goals go_wp2_with (first
      | (go_at_call 134; (with_reducible refine h0.out.mono ?_); rintro e w1 ⟨rfl, b1⟩)
      | (go_at_call 13; (with_reducible refine (h1.out _).mono ?_); rintro e w2 ⟨rfl, b2⟩; have B2 := b1.trans (b2.mono b1.size))
      | (go_at_call 131; (with_reducible refine (h3.out _).mono ?_); rintro e w3 ⟨rfl, b3⟩; have B3 := B2.trans (b3.mono B2.size))
      | (go_at_call 130; (with_reducible refine (h2.out _).mono ?_); rintro e w4 ⟨rfl, b4⟩; have B4 := B3.trans (b4.mono B3.size))
      | fail)
    all_goals go_ret
    all_goals first
      | exact ⟨by simp [*], B4⟩
      | exact ⟨by simp [*], B3⟩
      | exact ⟨by simp [*], B2⟩
set_option maxRecDepth 100000 in
theorem specMail_calls (c a d : ByteArray) (w : World) (hc : c.size ≤ 2147483647) (hd : d.size ≤ 2147483647) :
    Calls Tryz.prog 98 #[.string c, .string a, .string d] w fun e w' => e = .returned (.int .i64 (mailR c a d : Nat)) ∧ Below w.heap.size w w' := by
  have h0 := Lib.hid (mailboxOk_calls c w hc)
  have h1 := Lib.hid (fun W => cut_calls c W hc)
  have h2 := Lib.hid (fun W => same_calls (cutD c) d W (by have := cutD_le c; omega) hd)
  have h3 := Lib.hid (fun W => specUri_calls c d W hc hd)
  have hok : boxB c = true → cutOk c = true := fun h => (boxB_parts h).1
  have hq := beq_bytes (cutL c) a
  unfold mailR
  generalize boxB c = B at *
  generalize sameB (cutD c) d = S at *
  cases B with
  | false =>
    go_enter Tryz.func98, Tryz.ntmps98
    go_wp2_with (first
      | (go_at_call 16; (with_reducible refine h0.out.mono ?_); rintro e w1 ⟨rfl, b1⟩)
      | (go_at_call 95; (with_reducible refine (h3.out _).mono ?_); rintro e w2 ⟨rfl, b2⟩; have B2 := b1.trans (b2.mono b1.size))
      | fail)
    go_ret
    exact ⟨rfl, B2⟩
  | true =>
    rw [hok rfl] at h1
    simp only [if_true] at h1
    generalize decide (cutL c = a) = E at *
    generalize cutL c = L at *
    generalize cutD c = D at *
    clear hok
    cases E
    all_goals cases S
    all_goals go_enter Tryz.func98, Tryz.ntmps98
    all_goals go_wp2_with (first
      | (go_at_call 16; (with_reducible refine h0.out.mono ?_); rintro e w1 ⟨rfl, b1⟩)
      | (go_at_call 41; (with_reducible refine (h1.out _).mono ?_); rintro e w2 ⟨rfl, b2⟩; have B2 := b1.trans (b2.mono b1.size))
      | (go_at_call 130; (with_reducible refine (h2.out _).mono ?_); rintro e w3 ⟨rfl, b3⟩; have B3 := B2.trans (b3.mono B2.size))
      | fail)
    all_goals go_ret
    all_goals first
      | exact ⟨by simp [*], B3⟩
      | exact ⟨by simp [*], B2⟩
set_option maxRecDepth 100000 in
theorem cutTwo_calls (s : ByteArray) (w : World) (hs : s.size ≤ 2147483647) (hok : cutOk s = true) :
    Calls Tryz.prog 96 #[.string s] w fun e w' => e = .returned (.tuple #[.string (cutL s), .string (cutD s)]) ∧ Below w.heap.size w w' := by
  have h1 := cut_calls s w hs
  rw [hok, if_pos rfl] at h1
  have H1 := Lib.hid h1
  clear h1 hok
  generalize cutL s = L at *
  generalize cutD s = D at *
  go_enter Tryz.func96, Tryz.ntmps96
  go_wp2_with (first
    | (go_at_call 41; (with_reducible refine H1.out.mono ?_); rintro e w1 ⟨rfl, b1⟩)
    | fail)
  exact bodyPost_ret (v := .tuple #[.string L, .string D]) (by simp [results, Tryz.results96, go_sem]) rfl ⟨rfl, b1⟩
/-- The closures of Checked: each holds what it asks of in blocks of its own. -/
theorem askDns_fn (c s : ByteArray) (g : Nat) (w : World) (hg : Blk w g 9 #[.string s]) (hc : c.size ≤ 2147483647) (hs : s.size ≤ 2147483647) :
    Calls Tryz.prog 90 #[.string c, .pointer (some ⟨g, 0, none⟩)] w fun e w' => e = .returned (.int .i64 (dnsR c s : Nat)) ∧ Below w.heap.size w w' := by
  have h := Lib.hid (specDns_calls c s w hc hs)
  have c0 := hg.at_ 0 rfl
  generalize dnsR c s = R at *
  go_enter Tryz.func90, Tryz.ntmps90
  go_wp2_with (first
    | (go_at_call 91; (with_reducible refine h.out.mono ?_); rintro e w1 ⟨rfl, b1⟩)
    | fail)
  go_ret
  exact ⟨rfl, b1⟩
theorem askUri_fn (c s : ByteArray) (g : Nat) (w : World) (hg : Blk w g 9 #[.string s]) (hc : c.size ≤ 2147483647) (hs : s.size ≤ 2147483647) :
    Calls Tryz.prog 94 #[.string c, .pointer (some ⟨g, 0, none⟩)] w fun e w' => e = .returned (.int .i64 (uriR c s : Nat)) ∧ Below w.heap.size w w' := by
  have h := Lib.hid (specUri_calls c s w hc hs)
  have c0 := hg.at_ 0 rfl
  generalize uriR c s = R at *
  go_enter Tryz.func94, Tryz.ntmps94
  go_wp2_with (first
    | (go_at_call 95; (with_reducible refine h.out.mono ?_); rintro e w1 ⟨rfl, b1⟩)
    | fail)
  go_ret
  exact ⟨rfl, b1⟩
theorem askMail_fn (c a d : ByteArray) (g k : Nat) (w : World) (hg : Blk w g 9 #[.string a]) (hk : Blk w k 9 #[.string d]) (hc : c.size ≤ 2147483647) (hd : d.size ≤ 2147483647) :
    Calls Tryz.prog 97 #[.string c, .pointer (some ⟨g, 0, none⟩), .pointer (some ⟨k, 0, none⟩)] w fun e w' => e = .returned (.int .i64 (mailR c a d : Nat)) ∧ Below w.heap.size w w' := by
  have h := Lib.hid (specMail_calls c a d w hc hd)
  have c0 := hg.at_ 0 rfl
  have c1 := hk.at_ 0 rfl
  generalize mailR c a d = R at *
  go_enter Tryz.func97, Tryz.ntmps97
  go_wp2_with (first
    | (go_at_call 98; (with_reducible refine h.out.mono ?_); rintro e w1 ⟨rfl, b1⟩)
    | fail)
  go_ret
  exact ⟨rfl, b1⟩
end Go.Proofs.YtblabjfjhlablaaGreatDoor
/- The walks of spec's found, Rule, ruled, worst, of slices.Contains of numbers, and of answered. -/
namespace Go.Proofs.YtblabjfjhlablaaGreatDoor
open Go.RowKit Go.Sort Nc
def encI (n : Nat) : Value := .int .i64 n
theorem add_none0 {g k : Nat} : (⟨g, 0, none⟩ : Addr).add k = ⟨g, k, none⟩ := by
  unfold Addr.add
  split
  · subst_vars; rfl
  · simp
/-- A slice of numbers, read. -/
def NumsAt (w : World) (A : Option Addr) (l : List Nat) : Prop := ∀ k (h : k < l.length), ∃ ad, A = some ad ∧ w.cell? (ad.add k) = some (.int .i64 (l[k] : Nat))
theorem NumsAt.later {w w' : World} {A : Option Addr} {l : List Nat} (h : NumsAt w A l) (hb : Below w.heap.size w w') : NumsAt w' A l := fun k hk => by
  obtain ⟨ad, e, hc⟩ := h k hk
  exact ⟨ad, e, cell_keep hb hc⟩
theorem NumsAt.of_row {w : World} {v : Value} {l : List Nat} (h : SRow w 3 v (l.map encI)) : ∃ A c, v = .slice A l.length c ∧ NumsAt w A l := by
  rcases h with ⟨h, e⟩ | ⟨g, cap, cur, h, hb, _, _, _, hc⟩
  · have : l = [] := by simpa using e
    subst this
    exact ⟨none, 0, h, fun k hk => absurd hk (by simp)⟩
  · refine ⟨_, cap, by simpa using h, fun k hk => ⟨_, rfl, ?_⟩⟩
    have := hb.at_ k (hc k (.int .i64 (l[k] : Nat)) (by simp [hk, encI]))
    rw [add_none0]
    exact this
def foundAt (l : List Nat) (k : Nat) : Nat := if (l.take k).contains 2 then 2 else 0
theorem take_has {l : List Nat} {k : Nat} (h : k < l.length) (x : Nat) : (l.take (k + 1)).contains x = ((l.take k).contains x || x == l[k]) := by
  rw [List.take_succ_eq_append_getElem h, List.contains_eq_any_beq, List.any_append, List.contains_eq_any_beq]
  simp only [List.any_cons, List.any_nil, Bool.or_false]
set_option maxRecDepth 100000 in
set_option maxHeartbeats 1000000 in
theorem found_calls (A : Option Addr) (l : List Nat) (c : Nat) (w : World) (h : NumsAt w A l) (hl : l.length ≤ 1000000) :
    Calls Tryz.prog 162 #[.slice A l.length c] w fun e w' => e = .returned (.int .i64 (foundR l : Nat)) ∧ w = w' := by
  have H := Lib.hid h
  obtain ⟨R, hR⟩ : ∃ R, R = foundR l := ⟨_, rfl⟩
  have HR := Lib.hid hR
  rw [← hR]
  clear h hR
  go_enter Tryz.func162, Tryz.ntmps162
  go_wp2
  go_loop [3, 8] (fun o i => ∃ k : Nat, i = .int .i64 k ∧ k ≤ l.length ∧ o = .int .i64 (foundAt l k : Nat) ∧ Hid ((l.take k).contains 1 = false)) (fun _ i => l.length - (intOf i).toNat)
  case atStart => exact ⟨0, rfl, Nat.zero_le _, rfl, by show _ = _; simp⟩
  case round =>
    obtain ⟨k, rfl, hk, rfl, hn⟩ := hrel
    by_cases hlt : k < l.length
    · obtain ⟨ad, rfl, cx⟩ := H.out k hlt
      have h1 := take_has hlt 1
      have h2 := take_has hlt 2
      rw [hn.out, Bool.false_or] at h1
      have h3 : foundAt l (k + 1) = if l[k] = 2 then 2 else foundAt l k := by
        unfold foundAt
        rw [h2]
        by_cases e : l[k] = 2
        · rw [if_pos e, e]; simp
        · rw [if_neg e]
          have : (2 == l[k]) = false := by simp; exact fun h => e h.symm
          rw [this, Bool.or_false]
      have h4 : l[k] = 1 → R = 1 := fun e => by
        rw [HR.out]
        unfold foundR
        have : l.contains 1 = true := by
          rw [List.contains_iff_mem]
          rw [← e]; exact List.getElem_mem hlt
        rw [this]; rfl
      have H4 := Lib.hid h4
      have H1 := Lib.hid h1
      have H3 := Lib.hid h3
      clear h1 h2 h3 h4 hn
      generalize l[k] = x at *
      by_cases e1 : x = 1
      · have hr := H4.out e1
        subst hr
        subst e1
        clear H1 H3 H4 HR
        go_wp2
        go_ret
        exact ⟨rfl, rfl⟩
      · have hb1 : ((x : Int) == 1) = false := ib_ne (by omega)
        have hq : Hid ((l.take (k + 1)).contains 1 = false) := by
          show _ = _
          rw [H1.out]; simp; omega
        by_cases e2 : x = 2
        · have h3 := H3.out
          rw [if_pos e2] at h3
          have hb2 : ((x : Int) == 2) = true := ib_eq (by omega)
          have H5 := Lib.hid h3
          clear H1 H3 H4 h3 e1 e2
          go_wp2
          go_round
          case rel => exact ⟨k + 1, by go_num, by omega, by rw [H5.out]; rfl, hq⟩
          case measure => simp only [intOf]; omega
        · have h3 := H3.out
          rw [if_neg e2] at h3
          have hb2 : ((x : Int) == 2) = false := ib_ne (by omega)
          have H5 := Lib.hid h3
          clear H1 H3 H4 h3 e1 e2
          go_wp2
          go_round
          case rel => exact ⟨k + 1, by go_num, by omega, by rw [H5.out], hq⟩
          case measure => simp only [intOf]; omega
    · obtain rfl : k = l.length := by omega
      have hr : R = foundAt l l.length := by
        rw [HR.out]
        have := hn.out
        unfold foundR foundAt
        rw [List.take_length] at this ⊢
        rw [this]; rfl
      clear HR hn
      subst hr
      go_wp2
      go_ret
      exact ⟨rfl, rfl⟩
def IndexSays (b : Bool) (w : World) (e : Ending) (w' : World) : Prop := ∃ r : Int, e = .returned (.int .i64 r) ∧ w = w' ∧ decide (0 ≤ r) = b
set_option maxRecDepth 100000 in
set_option maxHeartbeats 1000000 in
theorem index_calls (A : Option Addr) (l : List Nat) (c x : Nat) (w : World) (h : NumsAt w A l) (hl : l.length ≤ 1000000) :
    Calls Tryz.prog 161 #[.slice A l.length c, .int .i64 x] w (IndexSays (l.contains x) w) := by
  have H := Lib.hid h
  obtain ⟨R, hR⟩ : ∃ R, R = l.contains x := ⟨_, rfl⟩
  have HR := Lib.hid hR
  rw [← hR]
  clear h hR
  go_enter Tryz.func161, Tryz.ntmps161
  go_wp2
  go_loop [8] (fun i => ∃ k : Nat, i = .int .i64 k ∧ k ≤ l.length ∧ Hid ((l.take k).contains x = false)) (fun i => l.length - (intOf i).toNat)
  case atStart => exact ⟨0, rfl, Nat.zero_le _, by show _ = _; simp⟩
  case round =>
    obtain ⟨k, rfl, hk, hn⟩ := hrel
    by_cases hlt : k < l.length
    · obtain ⟨ad, rfl, cx⟩ := H.out k hlt
      have h1 := take_has hlt x
      rw [hn.out, Bool.false_or] at h1
      have h4 : l[k] = x → R = true := fun e => by
        rw [HR.out, List.contains_iff_mem, ← e]; exact List.getElem_mem hlt
      have H4 := Lib.hid h4
      have H1 := Lib.hid h1
      clear h1 h4 hn
      generalize l[k] = y at *
      by_cases e1 : y = x
      · have hr := H4.out e1
        subst hr
        subst e1
        clear H1 H4 HR
        go_wp2
        go_ret
        exact ⟨_, rfl, rfl, decide_eq_true (by omega)⟩
      · have hb1 : ((x : Int) == (y : Int)) = false := ib_ne (by omega)
        have hq : Hid ((l.take (k + 1)).contains x = false) := by
          show _ = _
          rw [H1.out]; simp; omega
        clear H1 H4 e1
        go_wp2
        go_round
        case rel => exact ⟨k + 1, by go_num, by omega, hq⟩
        case measure => simp only [intOf]; omega
    · obtain rfl : k = l.length := by omega
      have hr : R = false := by
        rw [HR.out]
        have := hn.out
        rwa [List.take_length] at this
      clear HR hn
      subst hr
      go_wp2
      go_ret
      exact ⟨_, rfl, rfl, rfl⟩
theorem contains_calls2 (A : Option Addr) (l : List Nat) (c x : Nat) (w : World) (h : NumsAt w A l) (hl : l.length ≤ 1000000) :
    Calls Tryz.prog 132 #[.slice A l.length c, .int .i64 x] w fun e w' => e = .returned (.bool (l.contains x)) ∧ w = w' := by
  have H := Lib.hid (index_calls A l c x w h hl)
  generalize l.contains x = R at *
  clear h
  go_enter Tryz.func132, Tryz.ntmps132
  go_wp2_with (first
    | (go_at_call 161; (with_reducible refine H.out.mono ?_); rintro e w1 ⟨r, rfl, rfl, h1⟩)
    | fail)
  go_ret
  exact ⟨by rw [← h1]; rfl, rfl⟩
theorem contains2_calls (A : Option Addr) (l : List Nat) (c : Nat) (w : World) (h : NumsAt w A l) (hl : l.length ≤ 1000000) :
    Calls Tryz.prog 132 #[.slice A l.length c, .int .i64 2] w fun e w' => e = .returned (.bool (l.contains 2)) ∧ w = w' := contains_calls2 A l c 2 w h hl
set_option maxRecDepth 100000 in
theorem rule_calls (A B : Option Addr) (p e : List Nat) (ca cb : Nat) (w : World) (hp : NumsAt w A p) (he : NumsAt w B e) (lp : p.length ≤ 1000000) (le : e.length ≤ 1000000) :
    Calls Tryz.prog 133 #[.slice A p.length ca, .slice B e.length cb] w fun x w' => x = .returned (.int .i64 (ruleR p e : Nat)) ∧ w = w' := by
  have HP := Lib.hid (found_calls A p ca w hp lp)
  have HE := Lib.hid (found_calls B e cb w he le)
  have fp := foundR_le p
  have fe := foundR_le e
  have hne : p ≠ [] ↔ 0 < p.length := List.length_pos_iff.symm
  unfold ruleR
  simp only [hne]
  generalize foundR p = F at *
  generalize foundR e = G at *
  generalize p.length = n at *
  generalize e.length = m at *
  clear hp he hne
  have hF : F = 0 ∨ F = 1 ∨ F = 2 := by omega
  have hG : G = 0 ∨ G = 1 ∨ G = 2 := by omega
  clear fp fe
  by_cases h0 : 0 < n
  · rcases hG with rfl | rfl | rfl
    all_goals rcases hF with rfl | rfl | rfl
    all_goals go_enter Tryz.func133, Tryz.ntmps133
    all_goals go_wp2_with (first
      | (go_at_call 162; (with_reducible refine HE.out.mono ?_); rintro x w1 ⟨rfl, rfl⟩; clear HE)
      | (go_at_call 162; (with_reducible refine HP.out.mono ?_); rintro x w2 ⟨rfl, rfl⟩)
      | fail)
    all_goals go_ret
    all_goals exact ⟨by simp [*], rfl⟩
  · rcases hG with rfl | rfl | rfl
    all_goals go_enter Tryz.func133, Tryz.ntmps133
    all_goals go_wp2_with (first
      | (go_at_call 162; (with_reducible refine HE.out.mono ?_); rintro x w1 ⟨rfl, rfl⟩; clear HE)
      | fail)
    all_goals go_ret
    all_goals exact ⟨by simp [*], rfl⟩
set_option maxRecDepth 100000 in
theorem ruled_calls (A B : Option Addr) (p e : List Nat) (ca cb : Nat) (w : World) (hp : NumsAt w A p) (he : NumsAt w B e) (lp : p.length ≤ 1000000) (le : e.length ≤ 1000000) :
    Calls Tryz.prog 92 #[.slice A p.length ca, .slice B e.length cb] w fun x w' => x = .returned (.int .i64 (ruledR p e : Nat)) ∧ w = w' := by
  have HP := Lib.hid (contains2_calls A p ca w hp lp)
  have HE := Lib.hid (contains2_calls B e cb w he le)
  have HR := Lib.hid (rule_calls A B p e ca cb w hp he lp le)
  unfold ruledR
  generalize p.contains 2 = F at *
  generalize e.contains 2 = G at *
  generalize ruleR p e = R at *
  generalize p.length = n at *
  generalize e.length = m at *
  clear hp he
  cases F
  all_goals cases G
  all_goals go_enter Tryz.func92, Tryz.ntmps92
  all_goals go_wp2_with (first
    | (go_at_call 132; (with_reducible refine HP.out.mono ?_); rintro x w1 ⟨rfl, rfl⟩; clear HP)
    | (go_at_call 132; (with_reducible refine HE.out.mono ?_); rintro x w2 ⟨rfl, rfl⟩)
    | (go_at_call 133; (with_reducible refine HR.out.mono ?_); rintro x w3 ⟨rfl, rfl⟩)
    | fail)
  all_goals go_ret
  all_goals exact ⟨by simp [*], rfl⟩
theorem worst_calls (a b : Nat) (w : World) (ha : a ≤ 2) (hb : b ≤ 2) :
    Calls Tryz.prog 68 #[.int .i64 a, .int .i64 b] w fun x w' => x = .returned (.int .i64 (worstR a b : Nat)) ∧ w = w' := by
  have h1 : a = 0 ∨ a = 1 ∨ a = 2 := by omega
  have h2 : b = 0 ∨ b = 1 ∨ b = 2 := by omega
  rcases h1 with rfl | rfl | rfl
  all_goals rcases h2 with rfl | rfl | rfl
  all_goals go_enter Tryz.func68, Tryz.ntmps68
  all_goals go_wp2
  all_goals go_ret
  all_goals exact ⟨rfl, rfl⟩
theorem answered_calls (c r : Nat) (w : World) (hc : c ≤ 1) (hr : r ≤ 2) :
    Calls Tryz.prog 32 #[.int .i64 c, .int .i64 r] w fun x w' => x = .returned (.bool (if r = 1 then decide (c = 1) else if r = 0 then decide (c = 0) else true)) ∧ w = w' := by
  have h1 : c = 0 ∨ c = 1 := by omega
  have h2 : r = 0 ∨ r = 1 ∨ r = 2 := by omega
  rcases h1 with rfl | rfl
  all_goals rcases h2 with rfl | rfl | rfl
  all_goals go_enter Tryz.func32, Tryz.ntmps32
  all_goals go_wp2
  all_goals go_ret
  all_goals exact ⟨rfl, rfl⟩
end Go.Proofs.YtblabjfjhlablaaGreatDoor
/- The walks of spec's IP, OfNets and Of. -/
namespace Go.Proofs.YtblabjfjhlablaaGreatDoor
open Go.RowKit Go.Sort Nc
def hitIp (A M S : List UInt8) (j : Nat) : Bool := (S.getD j 0 &&& M.getD j 0) == A.getD j 0
theorem ipB_hits : ∀ (A M S : List UInt8), M.length = A.length → S.length = A.length → (ipB A M S = true ↔ ∀ j, j < A.length → hitIp A M S j = true)
  | [], [], [], _, _ => by simp [ipB]
  | a :: A, m :: M, s :: S, h1, h2 => by
    have ih := ipB_hits A M S (by simpa using h1) (by simpa using h2)
    rw [ipB, Bool.and_eq_true, ih]
    constructor
    · rintro ⟨h, r⟩ j hj
      cases j with
      | zero => exact h
      | succ j => exact r j (by simpa using hj)
    · intro h
      exact ⟨h 0 (by simp), fun j hj => h (j + 1) (by simpa using hj)⟩
theorem ipB_ne : ∀ (A M S : List UInt8), M.length = A.length → S.length ≠ A.length → ipB A M S = false
  | [], _, [], _, h => absurd rfl h
  | [], _, _ :: _, _, _ => rfl
  | _ :: _, [], [], h, _ => by simp at h
  | _ :: _, _ :: _, [], _, _ => rfl
  | a :: A, m :: M, s :: S, h1, h2 => by
    rw [ipB, ipB_ne A M S (by simpa using h1) (by simpa using h2), Bool.and_false]
set_option maxRecDepth 100000 in
set_option maxHeartbeats 1000000 in
theorem specIp_calls (A M S : Option Addr) (n : NetV) (a : List UInt8) (ca cm cs : Nat) (w : World) (hA : Byt w A n.1) (hM : Byt w M n.2) (hS : Byt w S a) (hl : n.2.length = n.1.length) (hb : n.1.length ≤ 1000000) :
    Calls Tryz.prog 135 #[.agg #[.slice A n.1.length ca, .slice M n.2.length cm], .slice S a.length cs] w fun e w' => e = .returned (.int .i64 (ipR n a : Nat)) ∧ Below w.heap.size w w' := by
  have hC : Blk (w.alloc (.cells #[.slice A n.1.length ca, .slice M n.2.length cm] 72)) w.heap.size 72 #[.slice A n.1.length ca, .slice M n.2.length cm] := Blk.new _ _ _
  have hb0 : Below w.heap.size w (w.alloc (.cells #[.slice A n.1.length ca, .slice M n.2.length cm] 72)) := (Below.refl _ _).alloc (Nat.le_refl _) _
  obtain ⟨x, m⟩ := n
  simp only at *
  have c0 := hC.at_ 0 rfl
  have c1 := hC.at_ 1 rfl
  unfold ipR
  simp only
  by_cases hne : a.length = x.length
  case neg =>
    rw [ipB_ne x m a hl hne]
    have hd : ((a.length : Int) != (x.length : Int)) = true := by simp [bne, ib_ne (show ¬ (a.length : Int) = (x.length : Int) by omega)]
    clear hA hM hS hl hne
    go_enter Tryz.func135, Tryz.ntmps135
    go_wp2
    go_ret
    exact ⟨rfl, hb0⟩
  have hH := ipB_hits x m a hl hne
  have hhit : ∀ j (h1 : j < x.length) (h2 : j < m.length) (h3 : j < a.length), hitIp x m a j = (((a[j] &&& m[j]).toNat : Int) == ((x[j]).toNat : Int)) := fun j h1 h2 h3 => by
    unfold hitIp
    rw [← u8_eqI]
    simp [h1, h2, h3]
  generalize ipB x m a = R at *
  have HH := Lib.hid hH
  have HI := Lib.hid hhit
  have HA := Lib.hid hA
  have HM := Lib.hid hM
  have HS := Lib.hid hS
  have HL := Lib.hid hl
  have HN := Lib.hid hne
  rw [hne]
  clear hH hhit hA hM hS hl hne
  go_enter Tryz.func135, Tryz.ntmps135
  go_wp2
  generalize w.alloc (.cells #[.slice A x.length ca, .slice M m.length cm] 72) = W0 at *
  clear c0 c1
  go_loopw [15] (fun i wr => ∃ k : Nat, i = .int .i64 k ∧ k ≤ x.length ∧ Below w.heap.size w wr ∧ Blk wr w.heap.size 72 #[.slice A x.length ca, .slice M m.length cm] ∧ Hid (∀ j, j < k → hitIp x m a j = true)) (fun i _ => x.length - (intOf i).toNat)
  case atStart => exact ⟨0, rfl, Nat.zero_le _, hb0, hC, fun j h => absurd h (Nat.not_lt_zero _)⟩
  case round =>
    obtain ⟨k, rfl, hk, hbr, hbox, hr⟩ := hrel
    clear hb0 hC
    by_cases hkx : k < x.length
    · have hlt : k < a.length := by rw [HN.out]; exact hkx
      have hkm : k < m.length := by rw [HL.out]; exact hkx
      obtain ⟨xa, rfl, ca1⟩ := (HA.out.later hbr).at_ k hkx
      obtain ⟨xm, rfl, cm1⟩ := (HM.out.later hbr).at_ k hkm
      obtain ⟨xs, rfl, cs1⟩ := (HS.out.later hbr).at_ k hlt
      have c0 := hbox.at_ 0 rfl
      have c1 := hbox.at_ 1 rfl
      have hm := HI.out k hkx hkm hlt
      have ean := and8 a[k] m[k]
      generalize (a[k] &&& m[k]).toNat = z at *
      generalize a[k].toNat = y1 at *
      generalize m[k].toNat = y2 at *
      generalize x[k].toNat = y3 at *
      cases hz : ((z : Int) == (y3 : Int)) with
      | false =>
        have hz2 : ((z : Int) != (y3 : Int)) = true := by simp [bne, hz]
        have hRf : R = false := by
          rw [Bool.eq_false_iff]
          intro h
          have := HH.out.1 h k hkx
          rw [hm, hz] at this
          cases this
        subst hRf
        clear hm hr HH hz
        go_wp2
        go_quiet (fail)
        go_wp2
        go_ret
        exact ⟨rfl, below_drewN hbr _⟩
      | true =>
        have hz2 : ((z : Int) != (y3 : Int)) = false := by simp [bne, hz]
        have hnx : Hid (∀ j, j < k + 1 → hitIp x m a j = true) := fun j hj => by
          by_cases e : j = k
          · subst e; exact hm.trans hz
          · exact hr.out j (by omega)
        clear hm hr hz
        go_wp2
        go_quiet (fail)
        go_wp2
        go_roundw
        case rel => exact ⟨k + 1, by go_num, by omega, below_drewN hbr _, hbox.drewN _, hnx⟩
        case measure => simp only [intOf]; omega
    · obtain rfl : k = x.length := by omega
      have hRt : R = true := HH.out.2 hr.out
      subst hRt
      clear hr HH
      go_wp2
      go_ret
      exact ⟨rfl, hbr⟩
theorem int_info : (Tryz.prog.info? 3).map (fun i => (i.zero, i.size, i.bytes)) = some (some (.int .i64 0), 1, 8) := by kernel_rfl
/-- A row of numbers of the call's own. -/
def NumsNew (l : List Nat) (w : World) (e : Ending) (w' : World) : Prop := ∃ v, e = .returned v ∧ SRow w' 3 v (l.map encI) ∧ Below w.heap.size w w'
set_option maxRecDepth 100000 in
set_option maxHeartbeats 1000000 in
theorem of_calls (fid : Nat) (eg : ∀ args w, (callFunc fid args).run Tryz.prog w = .ok (.enter fid args) w) (caps : Array Value) (A : Option Addr) (l : List ByteArray) (c : Nat) (r : ByteArray → Nat) (w : World) (h : Reads w w.heap.size 1 A l.length (l.map .string)) (hl : l.length ≤ 1000000)
    (hp : ∀ x ∈ l, ∀ W, Below w.heap.size w W → Calls Tryz.prog fid (#[.string x] ++ caps) W fun e w' => e = .returned (.int .i64 (r x : Nat)) ∧ Below W.heap.size W w') :
    Calls Tryz.prog 93 #[.slice A l.length c, .func (.func fid) #[] caps] w (NumsNew (l.map r) w) := by
  obtain ⟨i0, hi0, hz0, hz1, hz2⟩ := info_parts int_info
  have H := Lib.hid h.cellAt
  have HP := Lib.hid hp
  have hw0 : Below w.heap.size w (w.alloc (.cells #[] 3)) := (Below.refl _ _).alloc (Nat.le_refl _) _
  have ho0 : (w.alloc (.cells #[] 3)).ownsRow w.heap.size 3 1 (.slice (some ⟨w.heap.size, 0, none⟩) 0 0) 0 (((l.map r).take 0).map encI) := empty_own w 3
  have H0 := Lib.hid (And.intro hw0 ho0)
  clear h hp hw0 ho0
  go_enter Tryz.func93, Tryz.ntmps93
  go_wp2
  go_loopw [5, 11] (fun o i wr => ∃ k : Nat, i = .int .i64 k ∧ k ≤ l.length ∧ Below w.heap.size w wr ∧ wr.ownsRow w.heap.size 3 1 o k (((l.map r).take k).map encI)) (fun _ i _ => l.length - (intOf i).toNat)
  case atStart => exact ⟨0, rfl, Nat.zero_le _, H0.out.1, H0.out.2⟩
  case round =>
    obtain ⟨k, rfl, hk, hbr, hown⟩ := hrel
    clear H0
    by_cases hlt : k < l.length
    · obtain ⟨ad, rfl, cx0⟩ := H.out k hlt
      have cx := cell_keep hbr cx0
      have hc := HP.out _ (List.getElem_mem hlt) wr hbr
      have htk : Hid (((l.map r).take (k + 1)).map encI = ((l.map r).take k).map encI ++ [.int .i64 (r l[k] : Nat)]) := by
        show _ = _
        rw [List.take_succ_eq_append_getElem (by simpa using hlt), List.map_append, List.getElem_map]; rfl
      clear cx0
      have HC := Lib.hid hc
      clear hc
      generalize r l[k] = y at *
      generalize l[k] = x at *
      go_wp2_with (first
        | (go_at_fn fid; refine HC.out.mono ?_; rintro e w1 ⟨rfl, b1⟩; have hbr1 := hbr.trans (b1.mono hbr.size); have hb2 := hbr1.alloc hbr1.size (.cells #[.int .i64 (y : Int)] 3); have hown2 := (own_later hown b1).alloc (.cells #[.int .i64 (y : Int)] 3); have hrd := one_rd w1 3 (.int .i64 (y : Int)))
        | (at_builtin
           refine wpList_append_any _ rfl _ (.tmp 19) _ rfl w.heap.size 3 i0 _ 1 8 Tryz.underlying108 hi0 hz0 hz1 hz2 rfl (by omega) u5 k _ rfl hown2 (w1.heap.size + 1) (some ⟨w1.heap.size, 0, none⟩) 1 1 _ rfl hrd (by simp [Value.oneCell']) (by simp only [maxLen]; omega) (by omega) hb2.size ?_
           intro v3 w3 hown3 hg3 hat3)
        | fail)
      have hb3 := hb2.grown hg3 hb2.size (fun q hq => (hown2.lt q hq).1)
      have hrow : w3.ownsRow w.heap.size 3 1 v3 (k + 1) (((l.map r).take (k + 1)).map encI) := by
        rw [htk.out]; exact hown3
      clear hat3 hg3 hown3 hown2 hrd hb2 htk
      go_wp2
      go_roundw
      case rel => exact ⟨k + 1, by go_num, by omega, hb3, hrow⟩
      case measure => simp only [intOf]; omega
    · obtain rfl : k = l.length := by omega
      rw [List.take_of_length_le (by simp)] at hown
      have hr := SRow.of_own hown
      have HR := Lib.hid (And.intro hr hbr)
      clear hown
      obtain ⟨A2, c2, rfl, _⟩ := NumsAt.of_row hr
      clear hr
      go_wp2
      go_ret
      exact ⟨_, rfl, HR.out.1, HR.out.2⟩
set_option maxRecDepth 100000 in
set_option maxHeartbeats 1000000 in
theorem ofNets_calls (A S : Option Addr) (l : List NetV) (a : List UInt8) (c cs : Nat) (w : World) (h : NetsRd w A l) (hS : Byt w S a) (ok : ∀ n ∈ l, n.2.length = n.1.length ∧ n.1.length ≤ 1000000) (hl : l.length ≤ 1000000) :
    Calls Tryz.prog 99 #[.slice A l.length c, .slice S a.length cs] w (NumsNew (l.map (ipR · a)) w) := by
  obtain ⟨i0, hi0, hz0, hz1, hz2⟩ := info_parts int_info
  obtain ⟨p, q, pc, qc, h1, h2⟩ := h
  have H1 := Lib.hid h1
  have H2 := Lib.hid h2
  have HS := Lib.hid hS
  have HK := Lib.hid ok
  have hw0 : Below w.heap.size w (w.alloc (.cells #[] 3)) := (Below.refl _ _).alloc (Nat.le_refl _) _
  have ho0 : (w.alloc (.cells #[] 3)).ownsRow w.heap.size 3 1 (.slice (some ⟨w.heap.size, 0, none⟩) 0 0) 0 (((l.map (ipR · a)).take 0).map encI) := empty_own w 3
  have H0 := Lib.hid (And.intro hw0 ho0)
  clear h1 h2 hS ok hw0 ho0
  go_enter Tryz.func99, Tryz.ntmps99
  go_wp2
  go_loopw [5, 11] (fun o i wr => ∃ k : Nat, i = .int .i64 k ∧ k ≤ l.length ∧ Below w.heap.size w wr ∧ wr.ownsRow w.heap.size 3 1 o k (((l.map (ipR · a)).take k).map encI)) (fun _ i _ => l.length - (intOf i).toNat)
  case atStart => exact ⟨0, rfl, Nat.zero_le _, H0.out.1, H0.out.2⟩
  case round =>
    obtain ⟨k, rfl, hk, hbr, hown⟩ := hrel
    clear H0
    by_cases hlt : k < l.length
    · obtain ⟨g, off, rfl, hcell⟩ := H1.out (by omega)
      obtain ⟨p0, p1⟩ := hcell k hlt
      obtain ⟨b0, b1⟩ := H2.out k hlt
      have hgd : l.getD k ([], []) = l[k] := by simp [hlt]
      simp only [hgd] at p0 p1
      have P0 := cell_keep hbr p0
      have P1 := cell_keep hbr p1
      have hok := HK.out _ (List.getElem_mem hlt)
      have hA := hbr.alloc hbr.size (.cells #[.slice (p k) l[k].1.length (pc k), .slice (q k) l[k].2.length (qc k)] 72)
      have hownA := hown.alloc (.cells #[.slice (p k) l[k].1.length (pc k), .slice (q k) l[k].2.length (qc k)] 72)
      have hc := specIp_calls (p k) (q k) S l[k] a (pc k) (qc k) cs _ (b0.later hA) (b1.later hA) (HS.out.later hA) hok.1 hok.2
      have htk : Hid (((l.map (ipR · a)).take (k + 1)).map encI = ((l.map (ipR · a)).take k).map encI ++ [.int .i64 (ipR l[k] a : Nat)]) := by
        show _ = _
        rw [List.take_succ_eq_append_getElem (by simpa using hlt), List.map_append, List.getElem_map]; rfl
      clear hcell p0 p1 b0 b1 hgd hok
      have HC := Lib.hid hc
      clear hc
      generalize ipR l[k] a = y at *
      generalize l[k].1.length = n1 at *
      generalize l[k].2.length = n2 at *
      have HA := Lib.hid hA
      have HO := Lib.hid hownA
      clear hA hownA
      go_wp2_with (first
        | (go_at_call 135; (with_reducible refine HC.out.mono ?_); rintro e w1 ⟨rfl, b1⟩; have hbr1 := HA.out.trans (b1.mono HA.out.size); have hb2 := hbr1.alloc hbr1.size (.cells #[.int .i64 (y : Int)] 3); have hown2 := (own_later HO.out b1).alloc (.cells #[.int .i64 (y : Int)] 3); have hrd := one_rd w1 3 (.int .i64 (y : Int)))
        | (at_builtin
           refine wpList_append_any _ rfl _ (.tmp 19) _ rfl w.heap.size 3 i0 _ 1 8 Tryz.underlying108 hi0 hz0 hz1 hz2 rfl (by omega) u5 k _ rfl hown2 (w1.heap.size + 1) (some ⟨w1.heap.size, 0, none⟩) 1 1 _ rfl hrd (by simp [Value.oneCell']) (by simp only [maxLen]; omega) (by omega) hb2.size ?_
           intro v3 w3 hown3 hg3 hat3)
        | fail)
      have hb3 := hb2.grown hg3 hb2.size (fun q hq => (hown2.lt q hq).1)
      have hrow : w3.ownsRow w.heap.size 3 1 v3 (k + 1) (((l.map (ipR · a)).take (k + 1)).map encI) := by
        rw [htk.out]; exact hown3
      clear hat3 hg3 hown3 hown2 hrd hb2 htk
      go_wp2
      go_roundw
      case rel => exact ⟨k + 1, by go_num, by omega, hb3, hrow⟩
      case measure => simp only [intOf]; omega
    · obtain rfl : k = l.length := by omega
      rw [List.take_of_length_le (by simp)] at hown
      have hr := SRow.of_own hown
      have HR := Lib.hid (And.intro hr hbr)
      clear hown
      obtain ⟨A2, c2, rfl, _⟩ := NumsAt.of_row hr
      clear hr
      go_wp2
      go_ret
      exact ⟨_, rfl, HR.out.1, HR.out.2⟩
end Go.Proofs.YtblabjfjhlablaaGreatDoor
