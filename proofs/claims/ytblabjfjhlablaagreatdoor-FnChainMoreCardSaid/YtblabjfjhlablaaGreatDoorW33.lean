/- The walk of parseURIs over names of hosts: each with its lower case. -/
import Derived.Test.YtblabjfjhlablaaGreatDoorNl
import Derived.Test.YtblabjfjhlablaaGreatDoorW17
namespace Go.Proofs.YtblabjfjhlablaaGreatDoor
open Go.RowKit Nc
theorem head_list' (t : ByteArray) (h : 0 < t.size) : t.data.toList = t[0] :: t.data.toList.drop 1 := by
  have := drop_bytes t 0 h
  simpa using this
theorem hasPrefix_no (s : ByteArray) (h : ∀ h : 0 < s.size, s[0].toNat ≠ 91) : Lib.hasPrefix s.data.toList [91] = false := by
  rcases Nat.eq_zero_or_pos s.size with h0 | h0
  · have : s.data.toList = [] := List.eq_nil_of_length_eq_zero (by simpa using h0)
    rw [this]; rfl
  · rw [head_list' s h0]
    have := h h0
    unfold Lib.hasPrefix
    show ((91 : UInt8) == s[0] && _) = false
    rw [beq_eq_false_iff_ne.2 (fun e => this (by rw [← e]; rfl)), Bool.false_and]
/-- The pairs of names and their lower cases, as cells. -/
def pairs (l : List ByteArray) : List Value := l.flatMap fun s => [.string s, .string (lowS s)]
theorem pairs_len : ∀ l : List ByteArray, (pairs l).length = l.length * 2
  | [] => rfl
  | s :: l => by
    have := pairs_len l
    unfold pairs at this ⊢
    rw [List.flatMap_cons, List.length_append, this]
    simp; omega
theorem pairs_at : ∀ (l : List ByteArray) (k : Nat) (hk : k < l.length), (pairs l)[k * 2]? = some (.string l[k]) ∧ (pairs l)[k * 2 + 1]? = some (.string (lowS l[k]))
  | [], k, hk => by simp at hk
  | s :: l, 0, _ => ⟨rfl, rfl⟩
  | s :: l, k + 1, hk => by
    have := pairs_at l k (by simpa using hk)
    have e : pairs (s :: l) = [.string s, .string (lowS s)] ++ pairs l := rfl
    rw [e, List.getElem?_append_right (by simp; omega), List.getElem?_append_right (by simp; omega)]
    simpa [show (k + 1) * 2 - 2 = k * 2 by omega, show (k + 1) * 2 + 1 - 2 = k * 2 + 1 by omega] using this
theorem pairs_snoc (l : List ByteArray) (s : ByteArray) : pairs (l ++ [s]) = pairs l ++ [.string s, .string (lowS s)] := by
  simp [pairs]
def UriRow (w : World) (l : List ByteArray) (v : Value) : Prop := Reads2 w 145 v l.length (fun k => .string (l.getD k ByteArray.empty)) (fun k => .string (lowS (l.getD k ByteArray.empty)))
theorem UriRow.of_own {w : World} {base : Nat} {v : Value} {l : List ByteArray} (h : w.ownsRow base 145 2 v l.length (pairs l)) : UriRow w l v := by
  obtain ⟨h1, h2⟩ := h
  rcases h2 with ⟨rfl, h2⟩ | ⟨g, cap, cur, rfl, _, hh, hn, hm, hs, ht⟩
  · have h3 := pairs_len l
    rw [h2] at h3
    have : l = [] := List.eq_nil_of_length_eq_zero (by simp at h3; omega)
    subst this
    exact ⟨none, 0, rfl, fun h => absurd h (by simp)⟩
  · refine ⟨_, cap, rfl, fun _ => ⟨g, cur, rfl, hh, fun k hk => ?_⟩⟩
    obtain ⟨p1, p2⟩ := pairs_at l k hk
    have e : l.getD k ByteArray.empty = l[k] := by simp [hk]
    show cur[k * 2]? = some (.string (l.getD k ByteArray.empty)) ∧ cur[k * 2 + 1]? = some (.string (lowS (l.getD k ByteArray.empty)))
    rw [e]
    rw [← ht, List.getElem?_take, if_pos (by omega)] at p1 p2
    exact ⟨by simpa using p1, by simpa using p2⟩
theorem two_reads (w : World) (t : TypeId) (u v : Value) : Reads (w.alloc (.cells #[u, v] t)) (w.heap.size + 1) 2 (some ⟨w.heap.size, 0, none⟩) 1 [u, v] :=
  ⟨rfl, fun _ => ⟨⟨w.heap.size, 0, none⟩, rfl, Nat.lt_succ_self _, fun j x hx => by
    match j with
    | 0 =>
      simp only [List.getElem?_cons_zero, Option.some.injEq] at hx
      subst hx
      exact (Blk.new w t #[u, v]).at_ 0 rfl
    | 1 =>
      simp only [List.getElem?_cons_succ, List.getElem?_cons_zero, Option.some.injEq] at hx
      subst hx
      exact (Blk.new w t #[u, v]).at_ 1 rfl
    | j + 2 => simp at hx⟩⟩
set_option maxRecDepth 100000 in
set_option maxHeartbeats 2000000 in
theorem parseURIs_calls (l : List ByteArray) (A : Option Addr) (c : Nat) (w : World) (h : ∀ k, (hk : k < l.length) → ∃ ad, A = some ad ∧ w.cell? (ad.add k) = some (.string l[k])) (hl : l.length ≤ 1000000) (hok : ∀ s ∈ l, nameB s = true) :
    Calls Tryz.prog 87 #[.slice A l.length c] w (Parses (fun W u => UriRow W l u) w) := by
  obtain ⟨i0, hi0, hz0, hz1, hz2⟩ := info_parts uri_info
  have H := Lib.hid h
  have HK := Lib.hid hok
  clear h hok
  go_enter Tryz.func87, Tryz.ntmps87
  go_wp2_with (at_make; refine wpList_make_own _ rfl _ _ 117 rfl w.heap.size 145 i0 _ 2 Tryz.underlying117 hi0 hz0 hz1 _ _ _ l.length rfl rfl rfl (by rw [hz2]; omega) (by unfold maxLen; omega) (Nat.le_refl _) ?_; intro w1 o1 g1)
  have b1 : Below w.heap.size w w1 := (Below.refl _ _).grown g1 (Nat.le_refl _) (by simp)
  clear g1
  go_loopw [4, 16] (fun o i wr => ∃ k : Nat, i = .int .i64 k ∧ k ≤ l.length ∧ Below w.heap.size w wr ∧ wr.ownsRow w.heap.size 145 2 o k (pairs (l.take k))) (fun _ i _ => l.length - (intOf i).toNat)
  case atStart => exact ⟨0, rfl, Nat.zero_le _, b1, by simpa [pairs] using o1⟩
  case round =>
    obtain ⟨k, rfl, hk, hbr, hown⟩ := hrel
    clear b1 o1
    by_cases hlt : k < l.length
    · obtain ⟨ad, rfl, cx0⟩ := H.out k hlt
      have cx := cell_keep hbr cx0
      clear cx0
      have hn := HK.out _ (List.getElem_mem hlt)
      have hsz := (nameB_facts _ hn)
      have hf := nameB_host _ hn
      have htake : l.take (k + 1) = l.take k ++ [l[k]] := List.take_succ_eq_append_getElem hlt
      have HT := Lib.hid htake
      generalize l[k] = s at *
      have hz1' := hsz.pos
      have hz2' := hsz.size
      have hls := lowS_size s
      have tl := fun W => Tryz.strings_ToLower_ascii s W (by omega) hf.ascii
      rw [lowS_eq] at tl
      have zc := fun W => zzContains_calls (lowS s) ⟨#[58]⟩ W (by omega) (by decide)
      rw [hasB_colon _ hf.noColon] at zc
      have pa := fun W => parseAddr_calls (lowS s) W (by omega) hf.noColon hf.bad
      have hp := fun W => Tryz.strings_HasPrefix (lowS s) ⟨#[91]⟩ W
      rw [hasPrefix_no _ hf.noBracket] at hp
      have TL := Lib.hid tl
      have ZC := Lib.hid zc
      have PA := Lib.hid pa
      have HP := Lib.hid hp
      have hne : (((lowS s).size : Int) == 0) = false := ib_ne (by omega)
      clear tl zc pa hp htake hn hf hsz hls
      generalize hlow : lowS s = t at *
      have HL := Lib.hid hlow
      clear hlow
      go_wp2_with (fail)
      refine (TL.out _).mono ?_
      rintro e w2 ⟨rfl, b2⟩
      go_wp2_with (fail)
      refine (ZC.out _).mono ?_
      rintro e w3 ⟨rfl, rfl⟩
      go_wp2_with (fail)
      refine (PA.out _).mono ?_
      rintro e w3 ⟨v3, rfl, b3⟩
      have hb3 := (hbr.trans (b2.mono hbr.size)).trans (b3.mono (hbr.trans (b2.mono hbr.size)).size)
      have hown3 := own_later (own_later hown b2) b3
      clear hbr hown b2 b3 TL ZC PA cx
      have hb4 := hb3.alloc hb3.size (.cells #[.int .u64 0, .int .u64 0, .pointer none] 172)
      have hown4 := hown3.alloc (.cells #[.int .u64 0, .int .u64 0, .pointer none] 172)
      clear hb3 hown3
      go_wp2_with (fail)
      refine (HP.out _).mono ?_
      rintro e w4 ⟨rfl, rfl⟩
      have hb5 := hb4.alloc hb4.size (.cells #[.string s, .string t] 145)
      have hown5 := hown4.alloc (.cells #[.string s, .string t] 145)
      have hrd := two_reads (w3.alloc (.cells #[.int .u64 0, .int .u64 0, .pointer none] 172)) 145 (.string s) (.string t)
      generalize w3.alloc (.cells #[.int .u64 0, .int .u64 0, .pointer none] 172) = w4 at *
      clear HP hb4 hown4
      go_wp2_with (first
        | (at_builtin
           refine wpList_append_any _ rfl _ (.tmp 62) _ rfl w.heap.size 145 i0 _ 2 32 Tryz.underlying117 hi0 hz0 hz1 hz2 rfl (by omega) u4 k _ rfl hown5 (w4.heap.size + 1) (some ⟨w4.heap.size, 0, none⟩) 1 1 _ rfl hrd (by simp [Value.oneCell']) (by simp only [maxLen]; omega) (by omega) hb5.size ?_
           intro v1 w5 hown6 hg6 hat6))
      have hb6 : Below w.heap.size w w5 := hb5.grown hg6 hb5.size (fun q hq => (hown5.lt q hq).1)
      have hown7 : w5.ownsRow w.heap.size 145 2 v1 (k + 1) (pairs (l.take (k + 1))) := by
        rw [HT.out, pairs_snoc, HL.out]
        exact hown6
      clear hown6 hg6 hat6 hown5 hrd hb5 HT HL
      go_wp2
      go_roundw
      case rel => exact ⟨k + 1, by go_num, by omega, hb6, hown7⟩
      case measure => simp only [intOf]; omega
    · obtain rfl : k = l.length := by omega
      have hr : UriRow wr l u4 := UriRow.of_own (by simpa using hown)
      have HRW := Lib.hid hr
      clear hr hown
      go_wp2
      go_ret2
      exact ⟨_, rfl, HRW.out, hbr⟩
end Go.Proofs.YtblabjfjhlablaaGreatDoor
