/- The walk of newEmailConstraints: the mailboxes in a map, the other constraints as of names. -/
import Derived.Test.YtblabjfjhlablaaGreatDoorW38
import Derived.Test.YtblabjfjhlablaaGreatDoorW33
import Derived.Test.YtblabjfjhlablaaGreatDoorW36
import Derived.Test.YtblabjfjhlablaaGreatDoorW37
namespace Go.Proofs.YtblabjfjhlablaaGreatDoor
open Go.RowKit Nc Go.Maps
theorem doms_snoc (l : List ByteArray) (c : ByteArray) : doms (l ++ [c]) = if hasSign c then doms l else doms l ++ [c] := by
  unfold doms
  rw [List.filter_append]
  cases h : hasSign c <;> simp [h]
theorem doms_plain {l : List ByteArray} (h : PlainL l) : PlainL (doms l) := fun c hc => h c (List.mem_filter.1 hc).1
theorem Keeps.setCell {t : TypeId} {w : World} {b : Nat} {cs : Array Value} (h : Blk w b t cs) (i : Nat) (v : Value) : Keeps t w (w.setCell ⟨b, i, none⟩ v) :=
  ⟨by simp [World.setCell], fun k _ hn => Below.heap_setCell _ _ _ _ (fun e => by subst e; exact hn _ _ h)⟩
theorem IsDns.keeps {t : TypeId} {w w' : World} {l : List ByteArray} {perm : Bool} {v : Value} (h : IsDns w l perm v) (hb : Keeps t w w') (t1 : 135 ≠ t) (t2 : 137 ≠ t) (t3 : 9 ≠ t) : IsDns w' l perm v := by
  rcases h with h | ⟨D, h1, h2, h3⟩
  · exact .inl h
  · refine .inr ⟨D, h1, h2, ?_⟩
    rcases h3 with ⟨h3, h4⟩ | ⟨d, S, g, cap, cur, P, m, e1, b1, b2, b3, h4⟩
    · exact .inl ⟨h3, hb.blk h4 t1⟩
    · exact .inr ⟨d, S, g, cap, cur, P, m, e1, hb.blk b1 t1, hb.blk b2 t2, hb.blk b3 t3, h4⟩
theorem zero154 (w : World) : (zeroValue 154).run Tryz.prog w = .ok (.agg #[]) w := by kernel_rfl
set_option maxRecDepth 100000 in
theorem parse_calls (s : ByteArray) (w : World) (hs : s.size ≤ 1000000) : Calls Tryz.prog 112 #[.string s] w (BoxSays (parseS s) w) := by
  by_cases h0 : s.size = 0
  · have hb0 : Below w.heap.size w (w.alloc (.cells #[.string ⟨#[]⟩, .string ⟨#[]⟩] 148)) := (Below.refl _ _).alloc (Nat.le_refl _) _
    have hz : ((s.size : Int) == 0) = true := ib_eq (by omega)
    have hnone : parseS s = none := by
      have : s.data.toList = [] := List.eq_nil_of_length_eq_zero (by simpa using h0)
      unfold parseS
      rw [this]; rfl
    rw [hnone]
    clear h0 hnone
    go_enter Tryz.func112, Tryz.ntmps112
    go_wp2
    refine bodyPost_ret (v := .tuple #[.agg #[.string ⟨#[]⟩, .string ⟨#[]⟩], .bool false]) (by simp [results, Tryz.results112, go_sem]) rfl ⟨.inl ⟨rfl, rfl⟩, hb0⟩
  · by_cases c0 : (s[0]'(by omega)).toNat = 34
    · exact parse_quote s w hs (by omega) c0
    · exact parse_atom s w hs (by omega) c0
set_option maxRecDepth 100000 in
set_option maxHeartbeats 4000000 in
theorem newMail_some (l : List ByteArray) (perm : Bool) (A : Option Addr) (c : Nat) (w : World) (h : ∀ k, (hk : k < l.length) → ∃ ad, A = some ad ∧ w.cell? (ad.add k) = some (.string l[k])) (hl : l.length ≤ 1000000) (h0 : l ≠ []) (hok : PlainL l) (hL : Laid w) :
    Calls Tryz.prog 77 #[.slice A l.length c, .bool perm] w (Makes (fun W u => IsMail W l perm u) w) := by
  obtain ⟨i0, hi0, hz0, hz1, hz2⟩ := info_parts str_info
  have hne : ((l.length : Int) == 0) = false := ib_ne (by have := List.length_pos_iff.2 h0; omega)
  have H := Lib.hid h
  have HK := Lib.hid hok
  have HL := Lib.hid hL
  have hmm := @run_makeMap Tryz.prog
  have hb1 : Below w.heap.size w (w.alloc (.map #[] 0)) := (Below.refl _ _).alloc (Nat.le_refl _) _
  have HB1 := Lib.hid hb1
  clear h hok hL hb1
  go_enter Tryz.func77, Tryz.ntmps77
  go_wp2
  clear hmm
  go_loopw [6, 18] (fun o i wr => ∃ (k n : Nat) (D : DataW Unit), i = .int .i64 k ∧ k ≤ l.length ∧ n ≤ k ∧ Below w.heap.size w wr ∧ wr.ownsMap Tryz.prog 148 unitElem w.heap.size k D ∧ MapSays D (l.take k) ∧ wr.ownsRow (w.heap.size + 1) 9 1 o n ((doms (l.take k)).map .string) ∧ w.heap.size + 1 ≤ wr.heap.size) (fun _ i _ => l.length - (intOf i).toNat)
  case atStart => exact ⟨0, 0, _, rfl, Nat.zero_le _, Nat.le_refl _, HB1.out, World.ownsMap_made _ _ _ _, MapSays.nil, nil_own0 _ _ _, by simp⟩
  case round =>
    obtain ⟨k, n, D, rfl, hk, hnk, hbr, hmap, hsays, hown, hsz⟩ := hrel
    clear HB1
    by_cases hlt : k < l.length
    · obtain ⟨ad, rfl, cx0⟩ := H.out k hlt
      have cx := cell_keep hbr cx0
      clear cx0
      have hp := HK.out _ (List.getElem_mem hlt)
      have htake : l.take (k + 1) = l.take k ++ [l[k]] := List.take_succ_eq_append_getElem hlt
      have HT := Lib.hid htake
      generalize l[k] = s at *
      have hsz2 := hp.1
      have HS := Lib.hid hsays
      have SG := Lib.hid (fun W => zzContainsRune_calls s W)
      have PS := Lib.hid (fun W => parse_calls s W (by omega))
      clear hp htake hsays
      go_wp2_with (fail)
      refine (SG.out _).mono ?_
      rintro e w2 ⟨rfl, b2⟩
      have hb2 := hbr.trans (b2.mono hbr.size)
      have hmap2 := hmap.kept (row := none) ⟨b2.os, b2.tape, b2.output, b2.size, fun j hj _ => b2.block j hj⟩ (by simp)
      have hown2 := own_later hown b2
      have hsz3 : w.heap.size + 1 ≤ w2.heap.size := by have := b2.size; omega
      clear SG b2 hbr hmap hown cx hsz
      cases hsg : hasSign s with
      | false =>
        have hd : doms (l.take (k + 1)) = doms (l.take k) ++ [s] := by rw [HT.out, doms_snoc, hsg]; rfl
        have hm : MapSays D (l.take (k + 1)) := by
          rw [HT.out]
          exact HS.out.skip (by unfold parseOf; rw [hsg]; rfl)
        have HD := Lib.hid hd
        have HM := Lib.hid hm
        have hb3 := hb2.alloc hb2.size (.cells #[.string s] 9)
        have hown3 := hown2.alloc (.cells #[.string s] 9)
        have hmap3 := hmap2.alloc (.cells #[.string s] 9)
        have hrd := one_rd w2 9 (.string s)
        have hsz4 : w.heap.size + 1 ≤ (w2.alloc (.cells #[.string s] 9)).heap.size := by rw [World.size_alloc]; omega
        clear hd hm hsg PS HS HT hown2 hmap2 hb2
        go_wp2_with (first
          | (at_builtin
             refine wpList_append_any _ rfl _ (.tmp 27) _ rfl (w.heap.size + 1) 9 i0 _ 1 16 Tryz.underlying22 hi0 hz0 hz1 hz2 rfl (by omega) u6 n _ rfl hown3 (w2.heap.size + 1) (some ⟨w2.heap.size, 0, none⟩) 1 1 _ rfl hrd (by simp [Value.oneCell']) (by simp only [maxLen]; omega) (by omega) hsz4 ?_
             intro v1 w5 hown6 hg6 hat6))
        have hb6 : Below w.heap.size w w5 := hb3.grown hg6 hb3.size (fun q hq => by have := (hown3.lt q hq).1; omega)
        have hmap6 := (hmap3.kept hg6 (fun e => by have := (hown3.lt _ e.symm).1; omega)).mono (Nat.le_succ k)
        have hown7 : w5.ownsRow (w.heap.size + 1) 9 1 v1 (n + 1) ((doms (l.take (k + 1))).map .string) := by
          rw [HD.out, List.map_append]
          exact hown6
        have hsz6 : w.heap.size + 1 ≤ w5.heap.size := by have := hg6.size; omega
        clear hown6 hg6 hat6 hown3 hrd hb3 hmap3 HD hsz4
        go_wp2
        go_roundw
        case rel => exact ⟨k + 1, n + 1, D, by go_num, by omega, by omega, hb6, hmap6, HM.out, hown7, hsz6⟩
        case measure => simp only [intOf]; omega
      | true =>
        have hd : doms (l.take (k + 1)) = doms (l.take k) := by rw [HT.out, doms_snoc, hsg]; rfl
        have HD := Lib.hid hd
        have HSG := Lib.hid hsg
        clear hd hsg
        go_wp2_with (fail)
        refine (PS.out _).mono ?_
        rintro e w3 ⟨hsay, b3⟩
        have hb3 := hb2.trans (b3.mono hb2.size)
        have hmap3 := hmap2.kept (row := none) ⟨b3.os, b3.tape, b3.output, b3.size, fun j hj _ => b3.block j hj⟩ (by simp)
        have hown3 := own_later hown2 b3
        have hsz4 : w.heap.size + 1 ≤ w3.heap.size := by have := b3.size; omega
        clear PS b3 hb2 hmap2 hown2
        rcases hsay with ⟨hr, rfl⟩ | ⟨a, d, hr, rfl⟩
        · have hm : MapSays D (l.take (k + 1)) := by
            rw [HT.out]
            exact HS.out.skip (by unfold parseOf; rw [HSG.out, hr]; rfl)
          have HM := Lib.hid hm
          have hb4 := hb3.alloc hb3.size (.cells #[.string ⟨#[]⟩, .string ⟨#[]⟩] 148)
          have hown4 := hown3.alloc (.cells #[.string ⟨#[]⟩, .string ⟨#[]⟩] 148)
          have hmap4 := (hmap3.alloc (.cells #[.string ⟨#[]⟩, .string ⟨#[]⟩] 148)).mono (Nat.le_succ k)
          have hown5 : (w3.alloc (.cells #[.string ⟨#[]⟩, .string ⟨#[]⟩] 148)).ownsRow (w.heap.size + 1) 9 1 u6 n ((doms (l.take (k + 1))).map .string) := by rw [HD.out]; exact hown4
          have hsz5 : w.heap.size + 1 ≤ (w3.alloc (.cells #[.string ⟨#[]⟩, .string ⟨#[]⟩] 148)).heap.size := by rw [World.size_alloc]; omega
          clear hm hr HS HT hown4 hown3 hmap3 hb3 HD
          go_wp2
          go_roundw
          case rel => exact ⟨k + 1, n, D, by go_num, by omega, by omega, hb4, hmap4, HM.out, hown5, hsz5⟩
          case measure => simp only [intOf]; omega
        · obtain ⟨f1, f2, f3⟩ := parseS_facts hr
          have e3 : s.data.toList.length = s.size := rfl
          have hpo : parseOf s = some (⟨a.toArray⟩, lowS ⟨d.toArray⟩) := by unfold parseOf; rw [HSG.out, hr]; rfl
          have hasc : ∀ (j : Nat) (b : UInt8), (⟨d.toArray⟩ : ByteArray).data.toList[j]? = some b → b.toNat < 128 := fun j b hb => dnvL_ascii f1 b (by have := List.mem_of_getElem? hb; simpa using this)
          have sa : (⟨a.toArray⟩ : ByteArray).size ≤ 300 := by show a.toArray.size ≤ 300; simp; omega
          have sd : (⟨d.toArray⟩ : ByteArray).size ≤ 300 := by show d.toArray.size ≤ 300; simp; omega
          have TL := fun W => Tryz.strings_ToLower_ascii ⟨d.toArray⟩ W (by omega) hasc
          rw [lowS_eq] at TL
          have sl := lowS_size ⟨d.toArray⟩
          obtain ⟨kl, hkl⟩ := key148 ⟨a.toArray⟩ (lowS ⟨d.toArray⟩) (by omega) (by omega)
          have hm : MapSays (D.put kl (.agg [])) (l.take (k + 1)) := by
            rw [HT.out]
            exact HS.out.put hmap3.isMap hpo hkl
          have HM := Lib.hid hm
          have TLH := Lib.hid TL
          have HKL := Lib.hid hkl
          have HQ : Hid (∀ q, u6.ownBlock = some q → q < w3.heap.size) := fun q hq => (hown3.lt q hq).2
          clear hm hr HS HT hpo f1 f2 f3 e3 hasc sa sd TL sl hkl
          generalize lowS ⟨d.toArray⟩ = ld at *
          generalize (⟨a.toArray⟩ : ByteArray) = la at *
          generalize (⟨d.toArray⟩ : ByteArray) = ud at *
          have hb4 := hb3.alloc hb3.size (.cells #[.string la, .string ud] 148)
          have hown4 := hown3.alloc (.cells #[.string la, .string ud] 148)
          have hmap4 := hmap3.alloc (.cells #[.string la, .string ud] 148)
          have hnew := Blk.new w3 148 #[.string la, .string ud]
          have hg3 : w.heap.size + 1 ≤ w3.heap.size := hsz4
          clear hb3 hown3 hmap3
          go_wp2_with (fail)
          refine (TLH.out _).mono ?_
          rintro e w5 ⟨rfl, b5⟩
          have hb5 := hb4.trans (b5.mono hb4.size)
          have hmap5 := hmap4.kept (row := none) ⟨b5.os, b5.tape, b5.output, b5.size, fun j hj _ => b5.block j hj⟩ (by simp)
          have hown5 := own_later hown4 b5
          have hnew5 := hnew.later b5
          have c0 := hnew5.at_ 0 rfl
          have c1 := hnew5.at_ 1 rfl
          have ff := hnew5.frozen 1
          have hb6 := hb5.setCell (p := ⟨w3.heap.size, 1, none⟩) (by simp; omega) (.string ld)
          have hown6 := ownsRow_setCell_other hown5 (a := ⟨w3.heap.size, 1, none⟩) (fun e => by have := HQ.out _ e; simp at this) (.string ld)
          have hmap6 := hmap5.setCell (a := ⟨w3.heap.size, 1, none⟩) (by simp; omega) (.string ld)
          have hkl := HKL.out
          have hown7 : (w5.setCell ⟨w3.heap.size, 1, none⟩ (.string ld)).ownsRow (w.heap.size + 1) 9 1 u6 n ((doms (l.take (k + 1))).map .string) := by rw [HD.out]; exact hown6
          clear TLH hb5 hmap5 hown5 hnew5 hb4 hown4 hmap4 hnew b5 hown6 HD HQ HKL
          go_wp2_with (first
            | (at_mapUpdate; refine wpList_mapUpdate_own _ rfl _ _ _ 152 rfl 148 154 law148 Tryz.underlying152 _ w.heap.size k D rfl hmap6 (by unfold maxLen; omega) _ _ _ rfl rfl hkl _ [] unitElem_mk ?_))
          intro w6 hmap7 hgrow7
          have hb7 : Below w.heap.size w w6 := hb6.grown hgrow7 hb6.size (fun j hj => by cases hj; exact Nat.le_refl _)
          have hown8 := hown7.kept hgrow7 (.inr (fun e => by have := (hown7.lt _ e).1; omega))
          have hsz8 : w.heap.size + 1 ≤ w6.heap.size := by
            have h1 := hgrow7.size
            have h2 := hmap6.lt
            omega
          clear hgrow7 hmap6 hkl hown7 hb6
          go_wp2
          go_roundw
          case rel => exact ⟨k + 1, n, _, by go_num, by omega, by omega, hb7, hmap7, HM.out, hown8, hsz8⟩
          case measure => simp only [intOf]; omega
    · obtain rfl : k = l.length := by omega
      rw [List.take_length] at hsays hown
      have HS := Lib.hid hsays
      have hb2 := hbr.alloc hbr.size (.cells #[.nilIface, .map (some w.heap.size)] 157)
      have hmap2 := hmap.alloc (.cells #[.nilIface, .map (some w.heap.size)] 157)
      have hown2 := hown.alloc (.cells #[.nilIface, .map (some w.heap.size)] 157)
      have hE := Blk.new wr 157 #[.nilIface, .map (some w.heap.size)]
      clear hsays
      by_cases hn : n = 0
      · subst hn
        have hd0 : doms l = [] := by have := hown.1; simpa using this
        obtain ⟨A, cap, hform⟩ : ∃ A cap, u6 = .slice A 0 cap := by
          rcases hown.2 with ⟨h, _⟩ | ⟨g, cap, cur, h, _⟩
          · exact ⟨_, _, h⟩
          · exact ⟨_, cap, h⟩
        subst hform
        have hM : IsMail (wr.alloc (.cells #[.nilIface, .map (some w.heap.size)] 157)) l perm (.iface 155 (.pointer (some ⟨wr.heap.size, 0, none⟩))) :=
          .inr ⟨_, rfl, h0, _, _, _, D, hE, hmap2, HS.out, .inl ⟨hd0, rfl⟩⟩
        have HMM := Lib.hid hM
        clear hd0 hM hown hown2 hmap hmap2 hE
        go_wp2
        go_ret
        exact ⟨_, rfl, rfl, rfl, HMM.out, hb2⟩
      · obtain ⟨g, cap, hform, _, _⟩ := hown.form (by omega)
        have hrow := SRow.of_own hown2
        have hnew := Lib.hid (newDns_makes (doms l) perm u6 _ hrow (by have := List.length_filter_le (fun c => !hasSign c) l; unfold doms; omega) (doms_plain HK.out) (HL.out.keep hb2))
        have f0 : ∀ W, Below (wr.alloc (.cells #[.nilIface, .map (some w.heap.size)] 157)).heap.size (wr.alloc (.cells #[.nilIface, .map (some w.heap.size)] 157)) W → W.cell? ⟨wr.heap.size, 0, none⟩ = some .nilIface ∧ W.frozen? ⟨wr.heap.size, 0, none⟩ = false := fun W hW => ⟨(hE.later hW).at_ 0 rfl, (hE.later hW).frozen 0⟩
        have F0 := Lib.hid f0
        have HE := Lib.hid hE
        have HMP := Lib.hid hmap2
        subst hform
        have hpos : (0 : Int) < (n : Int) := by omega
        clear f0 hE hmap2 hown hown2 hmap hrow hn
        go_wp2_with (fail)
        refine hnew.out.mono ?_
        rintro e w5 ⟨u, rfl, uc, uo, hu, b5⟩
        unfold Value.cells at uc
        obtain ⟨c0, ff⟩ := F0.out _ b5
        have hb5 := hb2.trans (b5.mono hb2.size)
        have hE5 := (HE.out.later b5).set_ 0 u
        have hmap5 := (HMP.out.kept (row := none) ⟨b5.os, b5.tape, b5.output, b5.size, fun j hj _ => b5.block j hj⟩ (by simp)).setCell (a := ⟨wr.heap.size, 0, none⟩) (by simp; omega) u
        have hb6 := hb5.setCell (p := ⟨wr.heap.size, 0, none⟩) hbr.size u
        have hu6 : IsDns (w5.setCell ⟨wr.heap.size, 0, none⟩ u) (doms l) perm u := by
          exact hu.keeps (Keeps.setCell (HE.out.later b5) 0 u) (by decide) (by decide) (by decide)
        have hM : IsMail (w5.setCell ⟨wr.heap.size, 0, none⟩ u) l perm (.iface 155 (.pointer (some ⟨wr.heap.size, 0, none⟩))) :=
          .inr ⟨_, rfl, h0, _, _, _, D, hE5, hmap5, HS.out, hu6⟩
        have HMM := Lib.hid hM
        have hst : (store ⟨wr.heap.size, 0, none⟩ u .plain).run Tryz.prog w5 = .ok () (w5.setCell ⟨wr.heap.size, 0, none⟩ u) := by
          rw [run_store _ _ _ _ _ uo, c0]
          simp [ff]
        clear hM hE5 hmap5 hu6 hu b5 hb5 HMP HE F0 hnew
        go_wp2
        go_ret
        exact ⟨_, rfl, rfl, rfl, HMM.out, hb6⟩
theorem newMail_calls (l : List ByteArray) (perm : Bool) (A : Option Addr) (c : Nat) (w : World) (h : ∀ k, (hk : k < l.length) → ∃ ad, A = some ad ∧ w.cell? (ad.add k) = some (.string l[k])) (hl : l.length ≤ 1000000) (hok : PlainL l) (hL : Laid w) :
    Calls Tryz.prog 77 #[.slice A l.length c, .bool perm] w (Makes (fun W u => IsMail W l perm u) w) := by
  by_cases h0 : l = []
  · subst h0
    refine (newMail_nil A c perm w).mono ?_
    rintro e w' ⟨rfl, rfl⟩
    exact ⟨_, rfl, rfl, rfl, .inl ⟨rfl, rfl⟩, Below.refl _ _⟩
  · exact newMail_some l perm A c w h hl h0 hok hL
end Go.Proofs.YtblabjfjhlablaaGreatDoor
