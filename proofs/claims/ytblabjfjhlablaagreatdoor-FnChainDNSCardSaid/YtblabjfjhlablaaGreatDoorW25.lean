/- The walks of spec.Plain and zzFits4. -/
import Derived.Test.YtblabjfjhlablaaGreatDoorW18
import Derived.Test.YtblabjfjhlablaaGreatDoorW19
namespace Go.Proofs.YtblabjfjhlablaaGreatDoor
open Go.RowKit Nc
def plainS (s : ByteArray) : Bool := decide (s.size ≤ 300) && s.data.toList.all (fun b => decide (b.toNat ≠ 0))
theorem plain_ok (l : List ByteArray) (h : l.all plainS = true) : PlainL l := fun c hc => by
  have := List.all_eq_true.1 h c hc
  unfold plainS at this
  simp only [Bool.and_eq_true, decide_eq_true_eq, List.all_eq_true] at this
  refine ⟨this.1, fun b hb e => ?_⟩
  subst e
  exact this.2 _ hb rfl
set_option maxRecDepth 100000 in
set_option maxHeartbeats 1000000 in
theorem plain_calls (A : Option Addr) (l : List ByteArray) (c : Nat) (w : World) (h : ∀ k, (hk : k < l.length) → ∃ ad, A = some ad ∧ w.cell? (ad.add k) = some (.string l[k])) (hl : l.length ≤ 1000000) (hs : ∀ x ∈ l, x.size ≤ 2147483647) :
    Calls Tryz.prog 12 #[.slice A l.length c] w fun e w' => e = .returned (.bool (l.all plainS)) ∧ w = w' := by
  have H := Lib.hid h
  have HS := Lib.hid hs
  have HR := Lib.hid (show l.all plainS = (l.drop 0).all plainS from rfl)
  generalize l.all plainS = R at *
  clear h hs
  go_enter Tryz.func12, Tryz.ntmps12
  go_wp2
  go_loop [8] (fun i => ∃ k : Nat, i = .int .i64 k ∧ k ≤ l.length ∧ Hid (R = (l.drop k).all plainS)) (fun i => l.length - (intOf i).toNat)
  case atStart => exact ⟨0, rfl, Nat.zero_le _, HR.out⟩
  case round =>
    obtain ⟨k, rfl, hk, hr⟩ := hrel
    clear HR
    by_cases hlt : k < l.length
    · obtain ⟨ad, rfl, cx⟩ := H.out k hlt
      have hr1 := hr.out
      rw [List.drop_eq_getElem_cons hlt, List.all_cons] at hr1
      have hsz := HS.out _ (List.getElem_mem hlt)
      generalize l[k] = x at *
      clear hr
      by_cases c1 : x.size ≤ 300
      · have hp : plainS x = x.data.toList.all (fun b => decide (b.toNat ≠ 0)) := by unfold plainS; rw [decide_eq_true c1, Bool.true_and]
        rw [hp] at hr1
        have HI := Lib.hid (show R = ((x.data.toList.drop 0).all (fun b => decide (b.toNat ≠ 0)) && (l.drop (k + 1)).all plainS) from hr1)
        clear hp hr1
        go_wp2
        go_loop [5] (fun i => ∃ m : Nat, i = .int .i64 m ∧ m ≤ x.size ∧ Hid (R = ((x.data.toList.drop m).all (fun b => decide (b.toNat ≠ 0)) && (l.drop (k + 1)).all plainS))) (fun i => x.size - (intOf i).toNat)
        case atStart => exact ⟨0, rfl, Nat.zero_le _, HI.out⟩
        case round =>
          obtain ⟨m, rfl, hm, hi⟩ := hrel
          clear HI
          by_cases hmt : m < x.size
          · have hr2 := hi.out
            rw [drop_bytes x m hmt, List.all_cons] at hr2
            have u1 := (x[m]).toNat_lt
            clear hi
            by_cases c2 : x[m].toNat = 0
            · have c2' : ((x[m].toNat : Int) == 0) = true := ib_eq (by omega)
              rw [decide_eq_false (fun h => h c2), Bool.false_and, Bool.false_and] at hr2
              subst hr2
              clear c2
              go_wp2
              go_ret
              exact ⟨rfl, rfl⟩
            · have c2' : ((x[m].toNat : Int) == 0) = false := ib_ne (by omega)
              rw [decide_eq_true c2, Bool.true_and] at hr2
              have HI2 := Lib.hid hr2
              clear hr2 c2
              go_wp2
              go_round
              case rel => exact ⟨m + 1, by go_num, by omega, HI2.out⟩
              case measure => simp only [intOf]; omega
          · obtain rfl : m = x.size := by omega
            have hr2 := hi.out
            rw [List.drop_eq_nil_of_le (by simp), List.all_nil, Bool.true_and] at hr2
            have HI2 := Lib.hid hr2
            clear hr2 hi
            go_wp2
            go_round
            case rel => exact ⟨k + 1, by go_num, by omega, HI2.out⟩
            case measure => simp only [intOf]; omega
      · have hp : plainS x = false := by unfold plainS; rw [decide_eq_false c1]; rfl
        rw [hp, Bool.false_and] at hr1
        subst hr1
        clear hp
        go_wp2
        go_ret
        exact ⟨rfl, rfl⟩
    · obtain rfl : k = l.length := by omega
      have hr1 := hr.out
      rw [List.drop_length] at hr1
      simp only [List.all_nil] at hr1
      subst hr1
      clear hr
      go_wp2
      go_ret
      exact ⟨rfl, rfl⟩
set_option maxRecDepth 100000 in
/-- Texts of which none is too long for the laws. -/
theorem fits4_calls (A : Option Addr) (l : List ByteArray) (c : Nat) (w : World) (h : ∀ k, (hk : k < l.length) → ∃ ad, A = some ad ∧ w.cell? (ad.add k) = some (.string l[k])) (hl : l.length ≤ 9000000000000000000) (hs : ∀ x ∈ l, x.size ≤ 9000000000000000000) :
    Calls Tryz.prog 11 #[.slice A l.length c] w fun e w' => ∃ b, e = .returned (.bool b) ∧ w = w' ∧ (b = true → l.length ≤ 2147483647 ∧ ∀ x ∈ l, x.size ≤ 2147483647) := by
  by_cases h0 : l.length ≤ 2147483647
  case neg =>
    clear h hs
    go_enter Tryz.func11, Tryz.ntmps11
    go_wp2
    go_ret
    exact ⟨_, rfl, rfl, fun h => by cases h⟩
  have H := Lib.hid h
  have HS := Lib.hid hs
  clear h hs
  go_enter Tryz.func11, Tryz.ntmps11
  go_wp2
  go_loop [10] (fun i => ∃ k : Nat, i = .int .i64 k ∧ k ≤ l.length ∧ Hid (∀ x ∈ l.take k, x.size ≤ 2147483647)) (fun i => l.length - (intOf i).toNat)
  case atStart => exact ⟨0, rfl, Nat.zero_le _, fun x hx => by simp at hx⟩
  case round =>
    obtain ⟨k, rfl, hk, hr⟩ := hrel
    by_cases hlt : k < l.length
    · obtain ⟨ad, rfl, cx⟩ := H.out k hlt
      have hsz := HS.out _ (List.getElem_mem hlt)
      have hr1 := hr.out
      have hr3 : l[k].size ≤ 2147483647 → Hid (∀ x ∈ l.take (k + 1), x.size ≤ 2147483647) := fun hq x hx => by
        rw [List.take_succ_eq_append_getElem hlt] at hx
        rcases List.mem_append.1 hx with hx | hx
        · exact hr1 x hx
        · simp only [List.mem_singleton] at hx; subst hx; exact hq
      have HR3 := Lib.hid hr3
      clear hr hr1 hr3
      generalize l[k] = x at *
      by_cases c1 : x.size ≤ 2147483647
      · have HR4 := HR3.out c1
        clear HR3
        go_wp2
        go_round
        case rel => exact ⟨k + 1, by go_num, by omega, HR4⟩
        case measure => simp only [intOf]; omega
      · clear HR3
        go_wp2
        go_ret
        exact .inl ⟨rfl, rfl⟩
    · obtain rfl : k = l.length := by omega
      have hr1 := hr.out
      rw [List.take_length] at hr1
      have HR1 := Lib.hid hr1
      clear hr hr1
      go_wp2
      go_ret
      exact .inr ⟨rfl, rfl, HR1.out⟩
end Go.Proofs.YtblabjfjhlablaaGreatDoor
/- The walks of ZZCheckDNS and CheckDNS. -/
namespace Go.Proofs.YtblabjfjhlablaaGreatDoor
open Go.RowKit Nc
def noT (k : Nat) : ByteArray := match k with | 1 => txDNS | _ => ⟨#[]⟩
def ifs2 (a b : Value) (k : Nat) : Value := match k with | 2 => a | 3 => b | _ => .nilIface
set_option maxRecDepth 100000 in
set_option maxHeartbeats 2000000 in
theorem zzCheckDns_calls (p e : List ByteArray) (s : ByteArray) (vp ve : Value) (w : World) (hp : SRow w 9 vp (p.map .string)) (he : SRow w 9 ve (e.map .string)) (pp : PlainL p) (pe : PlainL e) (lp : p.length ≤ 1000000) (le : e.length ≤ 1000000) (hs : FitName s) (hL : Laid w) :
    Calls Tryz.prog 40 #[vp, ve, .string s] w (Says (ruledOut (askDns p s) (askDns e s)) w) := by
  have h1 := Lib.hid (newDns_makes p true vp w hp lp pp hL)
  have h2 := Lib.hid (fun W (hW : Below w.heap.size w W) => newDns_makes e false ve W (he.later hW) le pe (hL.keep hW))
  have hok : (⟨p, e, [s]⟩ : DCert).Ok := ⟨pp, pe, fun x hx => by simp only [List.mem_singleton] at hx; subst hx; exact hs, lp, le, by simp⟩
  have hbad : dnsBad ⟨p, e, [s]⟩ ⟨p, e, [s]⟩ = ruledOut (askDns p s) (askDns e s) := by simp [dnsBad]
  have h3 := fun (a : Nat → Value) (j b : Nat) (nx v1 v2 v3 v4 : Value) (W : World) => dnsCheck_calls ⟨p, e, [s]⟩ ⟨p, e, [s]⟩ noT (by decide) a j b nx v1 v2 v3 v4 W hok
  rw [hbad] at h3
  have H3 := Lib.hid h3
  generalize ruledOut (askDns p s) (askDns e s) = R at *
  clear hp he pp pe lp le hs hL hok hbad h3
  go_enter Tryz.func40, Tryz.ntmps40
  go_wp2_with (fail)
  refine h1.out.mono ?_
  rintro x w1 ⟨u1, rfl, uc1, uo1, f1, b1⟩
  unfold Value.cells at uc1
  go_wp2_with (fail)
  refine (h2.out _ b1).mono ?_
  rintro x w2 ⟨u2, rfl, uc2, uo2, f2, b2⟩
  unfold Value.cells at uc2
  have hC : Blk (w2.alloc (.cells #[.string ⟨#[]⟩, .nilIface, .nilIface, .string ⟨#[68, 78, 83, 32, 110, 97, 109, 101]⟩, u1, u2, .string ⟨#[]⟩, .nilIface, .nilIface, .string ⟨#[]⟩, .nilIface, .nilIface, .int .i64 0, .pointer none] 100)) w2.heap.size 100 (ccT noT (ifs2 u1 u2) 0 (.pointer none)) := Blk.new w2 100 _
  have hA1 : Below w2.heap.size w2 (w2.alloc (.cells #[.string ⟨#[]⟩, .nilIface, .nilIface, .string ⟨#[68, 78, 83, 32, 110, 97, 109, 101]⟩, u1, u2, .string ⟨#[]⟩, .nilIface, .nilIface, .string ⟨#[]⟩, .nilIface, .nilIface, .int .i64 0, .pointer none] 100)) := (Below.refl _ _).alloc (Nat.le_refl _) _
  have hz : (w2.alloc (.cells #[.string ⟨#[]⟩, .nilIface, .nilIface, .string ⟨#[68, 78, 83, 32, 110, 97, 109, 101]⟩, u1, u2, .string ⟨#[]⟩, .nilIface, .nilIface, .string ⟨#[]⟩, .nilIface, .nilIface, .int .i64 0, .pointer none] 100)).heap.size = w2.heap.size + 1 := Array.size_push _
  have hS := Blk.new (w2.alloc (.cells #[.string ⟨#[]⟩, .nilIface, .nilIface, .string ⟨#[68, 78, 83, 32, 110, 97, 109, 101]⟩, u1, u2, .string ⟨#[]⟩, .nilIface, .nilIface, .string ⟨#[]⟩, .nilIface, .nilIface, .int .i64 0, .pointer none] 100)) 9 #[.string s]
  rw [hz] at hS
  generalize hW1 : w2.alloc (.cells #[.string ⟨#[]⟩, .nilIface, .nilIface, .string ⟨#[68, 78, 83, 32, 110, 97, 109, 101]⟩, u1, u2, .string ⟨#[]⟩, .nilIface, .nilIface, .string ⟨#[]⟩, .nilIface, .nilIface, .int .i64 0, .pointer none] 100) = W1 at *
  have hA2 : Below w2.heap.size w2 (W1.alloc (.cells #[.string s] 9)) := hA1.alloc hA1.size _
  have hC2 := hC.alloc (.cells #[.string s] 9)
  have hB := (b1.trans (b2.mono b1.size)).trans (hA2.mono (b1.trans (b2.mono b1.size)).size)
  have hrow : SRow (W1.alloc (.cells #[.string s] 9)) 9 (.slice (some ⟨w2.heap.size + 1, 0, none⟩) 1 1) ([s].map .string) :=
    .inr ⟨_, 1, _, rfl, hS, by simp, by simp [maxLen], by simp, fun j u hu => by
      cases j with
      | zero => simpa using hu
      | succ j => simp at hu⟩
  have hq : Calls Tryz.prog 74 #[.pointer (some ⟨w2.heap.size, 0, none⟩), .slice (some ⟨w2.heap.size + 1, 0, none⟩) 1 1, .slice none 0 0, .slice none 0 0, .slice none 0 0] (W1.alloc (.cells #[.string s] 9)) (Says R (W1.alloc (.cells #[.string s] 9))) :=
    H3.out (ifs2 u1 u2) 0 w2.heap.size (.pointer none) _ (.slice none 0 0) (.slice none 0 0) (.slice none 0 0) _ ((f1.later b2).later hA2) (f2.later hA2) hC2 hrow ⟨_, _, rfl⟩ ⟨_, _, rfl⟩ ⟨_, _, rfl⟩
  subst hW1
  have HQ := Lib.hid hq
  have HB := Lib.hid hB
  clear hq hrow hB hS hC2 hA2 hA1 hC f1 f2 b1 b2 H3 h1 h2 hz
  go_wp2_with (fail)
  refine HQ.out.mono ?_
  rintro x w3 ⟨v, rfl, b3, s3⟩
  have hB := HB.out.trans (b3.mono HB.out.size)
  have HS3 := Lib.hid s3
  clear HQ HB b3 s3
  go_wp2
  go_ret
  exact ⟨_, rfl, hB, HS3.out⟩
set_option maxRecDepth 100000 in
theorem checkDns_calls (pA eA : Option Addr) (p e : List ByteArray) (pc ec : Nat) (s : ByteArray) (w : World) (hp : Reads w w.heap.size 1 pA p.length (p.map .string)) (he : Reads w w.heap.size 1 eA e.length (e.map .string)) (pp : PlainL p) (pe : PlainL e) (lp : p.length ≤ 1000000) (le : e.length ≤ 1000000) (hs : FitName s) (hL : Laid w) :
    Calls Tryz.prog 15 #[.slice pA p.length pc, .slice eA e.length ec, .string s] w fun x w' => x = .returned (.int .i64 (codeB (ruledOut (askDns p s) (askDns e s)))) ∧ Below w.heap.size w w' := by
  obtain ⟨i0, hi0, hz0, hz1, hz2⟩ := info_parts str_info
  have HZ := Lib.hid (fun vp ve (W : World) (hW : Below w.heap.size w W) (hp : SRow W 9 vp (p.map .string)) (he : SRow W 9 ve (e.map .string)) => zzCheckDns_calls p e s vp ve W hp he pp pe lp le hs (hL.keep hW))
  have HP := Lib.hid hp
  have HE := Lib.hid he
  generalize ruledOut (askDns p s) (askDns e s) = R at *
  clear hp he pp pe hs hL
  go_enter Tryz.func15, Tryz.ntmps15
  go_wp2_with (first
    | (at_builtin
       refine wpList_append_any _ rfl _ (.tmp 7) _ rfl w.heap.size 9 i0 _ 1 16 Tryz.underlying22 hi0 hz0 hz1 hz2 rfl (by omega) (.slice none 0 0) 0 [] rfl (nil_own0 _ _ _) w.heap.size pA p.length pc _ rfl HP.out (ones_strings _) (le_max lp) (le_by lp) (Nat.le_refl _) ?_
       intro v1 w1 o1 g1 a1
       have c1 := app_below g1
       have t1 := Lib.hid (app_row o1)
       have hq := Lib.hid (HE.out.below c1)
       have s1 := Lib.hid c1.size
       clear o1 g1 a1)
    | (at_builtin
       refine wpList_append_any _ rfl _ (.tmp 9) _ rfl w.heap.size 9 i0 _ 1 16 Tryz.underlying22 hi0 hz0 hz1 hz2 rfl (by omega) (.slice none 0 0) 0 [] rfl (nil_own0 _ _ _) w.heap.size eA e.length ec _ rfl hq.out (ones_strings _) (le_max le) (le_by le) s1.out ?_
       intro v2 w2 o2 g2 a2
       have c2 := app_below g2
       have t2 := app_row o2
       have hB := c1.trans (c2.mono c1.size)
       have HQ := Lib.hid (HZ.out v1 v2 w2 hB (t1.out.later c2) t2)
       clear o2 g2 a2 hq t1 t2 c1 c2 s1 HZ)
    | fail)
  refine HQ.out.mono ?_
  rintro x w3 ⟨v, rfl, b3, s3⟩
  have hB3 := hB.trans (b3.mono hB.size)
  have hco := Lib.hid (codeOf_b v R w3 s3)
  clear s3 b3 HQ
  go_wp2_with (fail)
  refine hco.out.mono ?_
  rintro x w4 ⟨rfl, rfl⟩
  go_wp2
  go_ret
  exact ⟨rfl, hB3⟩
end Go.Proofs.YtblabjfjhlablaaGreatDoor
/- Chains of two certificates of DNS alone: names of one, constraints of the other. -/
namespace Go.Proofs.YtblabjfjhlablaaGreatDoor
open Go.RowKit Nc
def two {α : Type} (a b : α) (i : Nat) : α := match i with | 0 => a | _ => b
theorem dnsRefused_two (a b : DCert) : dnsRefused (two a b) 2 ↔ dnsBad a b = true := by
  constructor
  · rintro ⟨i, j, h1, h2, h3⟩
    obtain rfl : i = 0 := by omega
    obtain rfl : j = 1 := by omega
    exact h3
  · intro h
    exact ⟨0, 1, by omega, by omega, h⟩
def nilS : Value := .slice none 0 0
def twoCells (p e s : Value) : Array Value := #[nilS, nilS, nilS, nilS, nilS, nilS, nilS, nilS, s, nilS, nilS, nilS, p, nilS, nilS, nilS, e, nilS, nilS, nilS, nilS, nilS, nilS, nilS]
theorem twoCells_at (p e s : Value) (k j : Nat) (hk : k < 2) (hj : j < 4) :
    (twoCells p e s)[k * 12 + j]? = some (if k = 1 ∧ j = 0 then p else nilS) ∧ (twoCells p e s)[k * 12 + (4 + j)]? = some (if k = 1 ∧ j = 0 then e else nilS) ∧ (twoCells p e s)[k * 12 + (8 + j)]? = some (if k = 0 ∧ j = 0 then s else nilS) := by
  have hk2 : k = 0 ∨ k = 1 := by omega
  have hj2 : j = 0 ∨ j = 1 ∨ j = 2 ∨ j = 3 := by omega
  rcases hk2 with rfl | rfl <;> rcases hj2 with rfl | rfl | rfl | rfl <;> exact ⟨rfl, rfl, rfl⟩
theorem dnsTwo_calls (p e ss : List ByteArray) (pA eA sA : Option Addr) (pc ec sc g cap : Nat) (w : World) (hL : Laid w) (hg : Blk w g 30 (twoCells (.slice pA p.length pc) (.slice eA e.length ec) (.slice sA ss.length sc)))
    (hp : Reads w w.heap.size 1 pA p.length (p.map .string)) (he : Reads w w.heap.size 1 eA e.length (e.map .string)) (hs : Reads w w.heap.size 1 sA ss.length (ss.map .string))
    (pp : PlainL p) (pe : PlainL e) (ps : ∀ s ∈ ss, FitName s) (lp : p.length ≤ 1000000) (le : e.length ≤ 1000000) (ls : ss.length ≤ 1000000) :
    Calls Tryz.prog 21 #[.slice (some ⟨g, 0, none⟩) 2 cap] w fun x w' => x = .returned (.int .i64 (codeB (dnsBad ⟨[], [], ss⟩ ⟨p, e, []⟩))) ∧ Below w.heap.size w w' := by
  refine dnsChain_calls (two ⟨[], [], ss⟩ ⟨p, e, []⟩) 2 cap (some ⟨g, 0, none⟩) (two none pA) (two none eA) (two sA none) (two 0 pc) (two 0 ec) (two sc 0) w hL (by omega) (by omega) (fun i hi => ?_) (fun _ => ⟨g, 0, rfl, fun k hk j hj => ?_⟩) (fun i hi => ?_) (fun i hi => ?_) (fun i hi => ?_) _ ?_
  · have : i = 0 ∨ i = 1 := by omega
    rcases this with rfl | rfl
    · exact ⟨fun c hc => by simp [two] at hc, fun c hc => by simp [two] at hc, ps, by simp [two], by simp [two], ls⟩
    · exact ⟨pp, pe, fun c hc => by simp [two] at hc, lp, le, by simp [two]⟩
  · obtain ⟨h1, h2, h3⟩ := twoCells_at (.slice pA p.length pc) (.slice eA e.length ec) (.slice sA ss.length sc) k j hk hj
    have c1 := hg.at_ _ h1
    have c2 := hg.at_ _ h2
    have c3 := hg.at_ _ h3
    have hk2 : k = 0 ∨ k = 1 := by omega
    have hj2 : j = 0 ∨ j = 1 ∨ j = 2 ∨ j = 3 := by omega
    simp only [Nat.zero_add]
    rcases hk2 with rfl | rfl <;> rcases hj2 with rfl | rfl | rfl | rfl <;> exact ⟨c1, c2, c3⟩
  · have : i = 0 ∨ i = 1 := by omega
    rcases this with rfl | rfl
    · exact .none_
    · exact hp
  · have : i = 0 ∨ i = 1 := by omega
    rcases this with rfl | rfl
    · exact .none_
    · exact he
  · have : i = 0 ∨ i = 1 := by omega
    rcases this with rfl | rfl
    · exact hs
    · exact .none_
  · exact (dnsRefused_two _ _).symm
end Go.Proofs.YtblabjfjhlablaaGreatDoor
/- The walks of refusedChain and alone (DNS). -/
namespace Go.Proofs.YtblabjfjhlablaaGreatDoor
open Go.RowKit Nc
theorem nameB_fit (s : ByteArray) (h : nameB s = true) : FitName s := by
  have f := nameB_facts s h
  exact ⟨f.pos, Nat.le_trans f.size (by decide), f.noz, f.star, f.valid⟩
def txA : ByteArray := ⟨#[97]⟩
def txB : ByteArray := ⟨#[98]⟩
theorem fitA : FitName txA := ⟨by decide, by decide, fun b hb => by simp only [txA, List.mem_singleton] at hb; subst hb; decide, fun _ => (by decide +kernel : (97 : Nat) ≠ 42), by decide +kernel⟩
theorem badAB : dnsBad ⟨[], [], [txA]⟩ ⟨[txB], [], []⟩ = true := by decide +kernel
theorem plainB : PlainL [txB] := fun c hc => by
  simp only [List.mem_singleton] at hc
  subst hc
  exact ⟨by decide, fun b hb => by simp only [txB, List.mem_singleton] at hb; subst hb; decide⟩
set_option maxRecDepth 100000 in
theorem refusedChain_calls (w : World) (hL : Laid w) : Calls Tryz.prog 20 #[] w fun x w' => x = .returned (.int .i64 1) ∧ Below w.heap.size w w' := by
  have hb1 : Below w.heap.size w (w.alloc (.cells #[.string ⟨#[97]⟩] 9)) := (Below.refl _ _).alloc (Nat.le_refl _) _
  have hz1 : (w.alloc (.cells #[.string ⟨#[97]⟩] 9)).heap.size = w.heap.size + 1 := Array.size_push _
  have ha := Blk.new w 9 #[.string ⟨#[97]⟩]
  generalize hW1 : w.alloc (.cells #[.string ⟨#[97]⟩] 9) = W1 at *
  have hb2 := hb1.alloc hb1.size (.cells #[.string ⟨#[98]⟩] 9)
  have hz2 : (W1.alloc (.cells #[.string ⟨#[98]⟩] 9)).heap.size = w.heap.size + 1 + 1 := by rw [← hz1]; exact Array.size_push _
  have hbb := Blk.new W1 9 #[.string ⟨#[98]⟩]
  rw [hz1] at hbb
  have ha2 := ha.alloc (.cells #[.string ⟨#[98]⟩] 9)
  generalize hW2 : W1.alloc (.cells #[.string ⟨#[98]⟩] 9) = W2 at *
  have hb3 := hb2.alloc hb2.size (.cells (twoCells (.slice (some ⟨w.heap.size + 1, 0, none⟩) 1 1) nilS (.slice (some ⟨w.heap.size, 0, none⟩) 1 1)) 30)
  have hc := Blk.new W2 30 (twoCells (.slice (some ⟨w.heap.size + 1, 0, none⟩) 1 1) nilS (.slice (some ⟨w.heap.size, 0, none⟩) 1 1))
  rw [hz2] at hc
  have ha3 := ha2.alloc (.cells (twoCells (.slice (some ⟨w.heap.size + 1, 0, none⟩) 1 1) nilS (.slice (some ⟨w.heap.size, 0, none⟩) 1 1)) 30)
  have hbb3 := hbb.alloc (.cells (twoCells (.slice (some ⟨w.heap.size + 1, 0, none⟩) 1 1) nilS (.slice (some ⟨w.heap.size, 0, none⟩) 1 1)) 30)
  have hq := dnsTwo_calls [txB] [] [txA] (some ⟨w.heap.size + 1, 0, none⟩) none (some ⟨w.heap.size, 0, none⟩) 1 0 1 (w.heap.size + 1 + 1) 2 _ (hL.keep hb3) hc
    ⟨rfl, fun _ => ⟨_, rfl, hbb3.lt, fun j u hu => by
      cases j with
      | zero => simp only [List.map_cons, List.getElem?_cons_zero, Option.some.injEq] at hu; subst hu; exact hbb3.at_ 0 rfl
      | succ j => simp at hu⟩⟩ .none_ ⟨rfl, fun _ => ⟨_, rfl, ha3.lt, fun j u hu => by
      cases j with
      | zero => simp only [List.map_cons, List.getElem?_cons_zero, Option.some.injEq] at hu; subst hu; exact ha3.at_ 0 rfl
      | succ j => simp at hu⟩⟩ plainB (fun c hc => by simp at hc) (fun s hs => by simp only [List.mem_singleton] at hs; subst hs; exact fitA) (by simp) (by simp) (by simp)
  rw [badAB] at hq
  unfold twoCells nilS at hq hb3
  have HQ := Lib.hid hq
  have HB := Lib.hid hb3
  clear hq hb3 hbb3 ha3 hc ha2 hbb hz2 hb2 ha hz1 hb1
  subst hW2
  subst hW1
  go_enter Tryz.func20, Tryz.ntmps20
  go_wp2_with (fail)
  refine HQ.out.mono ?_
  rintro x w1 ⟨rfl, b1⟩
  have hB := HB.out.trans (b1.mono HB.out.size)
  clear HB HQ b1
  go_wp2
  go_ret
  exact ⟨rfl, hB⟩
end Go.Proofs.YtblabjfjhlablaaGreatDoor
/- The walk of alone, of one kind: DNS. -/
namespace Go.Proofs.YtblabjfjhlablaaGreatDoor
open Go.RowKit Nc
set_option maxRecDepth 100000 in
theorem alone_calls (p e ss : List ByteArray) (pA eA sA : Option Addr) (pc ec sc : Nat) (w : World) (hL : Laid w)
    (hp : Reads w w.heap.size 1 pA p.length (p.map .string)) (he : Reads w w.heap.size 1 eA e.length (e.map .string)) (hs : Reads w w.heap.size 1 sA ss.length (ss.map .string))
    (pp : PlainL p) (pe : PlainL e) (ps : ∀ s ∈ ss, FitName s) (lp : p.length ≤ 1000000) (le : e.length ≤ 1000000) (ls : ss.length ≤ 1000000) :
    Calls Tryz.prog 14 #[.agg #[.slice pA p.length pc, nilS, nilS, nilS, .slice eA e.length ec, nilS, nilS, nilS, .slice sA ss.length sc, nilS, nilS, nilS], .int .i64 (codeB (dnsBad ⟨[], [], ss⟩ ⟨p, e, []⟩))] w fun x w' => x = .returned (.bool true) ∧ Below w.heap.size w w' := by
  have H1 := Lib.hid (fun W (hW : Below w.heap.size w W) => refusedChain_calls W (hL.keep hW))
  have H2 := Lib.hid (fun (g : Nat) (W : World) (hW : Below w.heap.size w W) hg => dnsTwo_calls p e ss pA eA sA pc ec sc g 2 W (hL.keep hW) hg ((hp.below hW).more hW.size) ((he.below hW).more hW.size) ((hs.below hW).more hW.size) pp pe ps lp le ls)
  generalize dnsBad ⟨[], [], ss⟩ ⟨p, e, []⟩ = R at *
  clear hp he hs pp pe ps lp le ls hL
  unfold nilS
  go_enter Tryz.func14, Tryz.ntmps14
  go_wp2_with (fail)
  have hb1 : Below w.heap.size w (w.alloc (.cells #[.slice pA p.length pc, .slice none 0 0, .slice none 0 0, .slice none 0 0, .slice eA e.length ec, .slice none 0 0, .slice none 0 0, .slice none 0 0, .slice sA ss.length sc, .slice none 0 0, .slice none 0 0, .slice none 0 0] 30)) := (Below.refl _ _).alloc (Nat.le_refl _) _
  have hz1 : (w.alloc (.cells #[.slice pA p.length pc, .slice none 0 0, .slice none 0 0, .slice none 0 0, .slice eA e.length ec, .slice none 0 0, .slice none 0 0, .slice none 0 0, .slice sA ss.length sc, .slice none 0 0, .slice none 0 0, .slice none 0 0] 30)).heap.size = w.heap.size + 1 := Array.size_push _
  generalize w.alloc (.cells #[.slice pA p.length pc, .slice none 0 0, .slice none 0 0, .slice none 0 0, .slice eA e.length ec, .slice none 0 0, .slice none 0 0, .slice none 0 0, .slice sA ss.length sc, .slice none 0 0, .slice none 0 0, .slice none 0 0] 30) = W1 at *
  have hb2 := hb1.alloc hb1.size (.cells #[.slice none 0 0, .slice none 0 0, .slice none 0 0, .slice none 0 0, .slice none 0 0, .slice none 0 0, .slice none 0 0, .slice none 0 0, .slice sA ss.length sc, .slice none 0 0, .slice none 0 0, .slice none 0 0] 30)
  have hz2 : (W1.alloc (.cells #[.slice none 0 0, .slice none 0 0, .slice none 0 0, .slice none 0 0, .slice none 0 0, .slice none 0 0, .slice none 0 0, .slice none 0 0, .slice sA ss.length sc, .slice none 0 0, .slice none 0 0, .slice none 0 0] 30)).heap.size = w.heap.size + 1 + 1 := by rw [← hz1]; exact Array.size_push _
  have hl := Blk.new W1 30 #[.slice none 0 0, .slice none 0 0, .slice none 0 0, .slice none 0 0, .slice none 0 0, .slice none 0 0, .slice none 0 0, .slice none 0 0, .slice sA ss.length sc, .slice none 0 0, .slice none 0 0, .slice none 0 0]
  rw [hz1] at hl
  generalize W1.alloc (.cells #[.slice none 0 0, .slice none 0 0, .slice none 0 0, .slice none 0 0, .slice none 0 0, .slice none 0 0, .slice none 0 0, .slice none 0 0, .slice sA ss.length sc, .slice none 0 0, .slice none 0 0, .slice none 0 0] 30) = W2 at *
  have hb3 := hb2.alloc hb2.size (.cells #[.slice pA p.length pc, .slice none 0 0, .slice none 0 0, .slice none 0 0, .slice eA e.length ec, .slice none 0 0, .slice none 0 0, .slice none 0 0, .slice none 0 0, .slice none 0 0, .slice none 0 0, .slice none 0 0] 30)
  have hl3 := hl.alloc (.cells #[.slice pA p.length pc, .slice none 0 0, .slice none 0 0, .slice none 0 0, .slice eA e.length ec, .slice none 0 0, .slice none 0 0, .slice none 0 0, .slice none 0 0, .slice none 0 0, .slice none 0 0, .slice none 0 0] 30)
  have hr := Blk.new W2 30 #[.slice pA p.length pc, .slice none 0 0, .slice none 0 0, .slice none 0 0, .slice eA e.length ec, .slice none 0 0, .slice none 0 0, .slice none 0 0, .slice none 0 0, .slice none 0 0, .slice none 0 0, .slice none 0 0]
  rw [hz2] at hr
  generalize W2.alloc (.cells #[.slice pA p.length pc, .slice none 0 0, .slice none 0 0, .slice none 0 0, .slice eA e.length ec, .slice none 0 0, .slice none 0 0, .slice none 0 0, .slice none 0 0, .slice none 0 0, .slice none 0 0, .slice none 0 0] 30) = W3 at *
  clear hb1 hb2 hz1 hz2 hl
  refine (H1.out W3 hb3).mono ?_
  rintro x w1 ⟨rfl, b1⟩
  have hl4 := hl3.later b1
  have hr4 := hr.later b1
  have hB := hb3.trans (b1.mono hb3.size)
  clear hb3 hl3 hr b1 H1
  have x0 := hl4.at_ 0 rfl
  have y0 := hr4.at_ 0 rfl
  have x1 := hl4.at_ 1 rfl
  have y1 := hr4.at_ 1 rfl
  have x2 := hl4.at_ 2 rfl
  have y2 := hr4.at_ 2 rfl
  have x3 := hl4.at_ 3 rfl
  have y3 := hr4.at_ 3 rfl
  have x4 := hl4.at_ 4 rfl
  have y4 := hr4.at_ 4 rfl
  have x5 := hl4.at_ 5 rfl
  have y5 := hr4.at_ 5 rfl
  have x6 := hl4.at_ 6 rfl
  have y6 := hr4.at_ 6 rfl
  have x7 := hl4.at_ 7 rfl
  have y7 := hr4.at_ 7 rfl
  have x8 := hl4.at_ 8 rfl
  have y8 := hr4.at_ 8 rfl
  have x9 := hl4.at_ 9 rfl
  have y9 := hr4.at_ 9 rfl
  have x10 := hl4.at_ 10 rfl
  have y10 := hr4.at_ 10 rfl
  have x11 := hl4.at_ 11 rfl
  have y11 := hr4.at_ 11 rfl
  have hg := Blk.new w1 30 (twoCells (.slice pA p.length pc) (.slice eA e.length ec) (.slice sA ss.length sc))
  have hB2 := hB.alloc hB.size (.cells (twoCells (.slice pA p.length pc) (.slice eA e.length ec) (.slice sA ss.length sc)) 30)
  have hq := H2.out w1.heap.size _ hB2 hg
  unfold twoCells nilS at hq hB2
  have HQ := Lib.hid hq
  have HB2 := Lib.hid hB2
  clear hq hB2 hg H2 hl4 hr4 hB
  have hcode : (codeB R == 0) = !R := by cases R <;> rfl
  go_wp2_with (fail)
  refine HQ.out.mono ?_
  rintro x w2 ⟨rfl, b2⟩
  have hB3 := HB2.out.trans (b2.mono HB2.out.size)
  clear HQ HB2 b2
  go_wp2
  go_ret
  exact ⟨by cases R <;> rfl, hB3⟩
end Go.Proofs.YtblabjfjhlablaaGreatDoor
/- The walk of FnChainDNS. -/
namespace Go.Proofs.YtblabjfjhlablaaGreatDoor
open Go.RowKit Nc
theorem Reads.cellAt {w : World} {A : Option Addr} {l : List ByteArray} (h : Reads w w.heap.size 1 A l.length (l.map .string)) : ∀ k, (hk : k < l.length) → ∃ ad, A = some ad ∧ w.cell? (ad.add k) = some (.string l[k]) := fun k hk => by
  obtain ⟨ad, e, _, hc⟩ := h.2 (by omega)
  exact ⟨ad, e, hc k _ (by simp [hk])⟩
theorem cells12' {W : World} {N : Nat} {a0 a1 a2 a3 a4 a5 a6 a7 a8 a9 a10 a11 : Value} (h : Blk W N 30 #[a0, a1, a2, a3, a4, a5, a6, a7, a8, a9, a10, a11]) :
    W.cell? ⟨N, 0, none⟩ = some a0 ∧ W.cell? ⟨N, 1, none⟩ = some a1 ∧ W.cell? ⟨N, 2, none⟩ = some a2 ∧ W.cell? ⟨N, 3, none⟩ = some a3 ∧ W.cell? ⟨N, 4, none⟩ = some a4 ∧ W.cell? ⟨N, 5, none⟩ = some a5 ∧ W.cell? ⟨N, 6, none⟩ = some a6 ∧ W.cell? ⟨N, 7, none⟩ = some a7 ∧ W.cell? ⟨N, 8, none⟩ = some a8 ∧ W.cell? ⟨N, 9, none⟩ = some a9 ∧ W.cell? ⟨N, 10, none⟩ = some a10 ∧ W.cell? ⟨N, 11, none⟩ = some a11 :=
  ⟨h.at_ 0 rfl, h.at_ 1 rfl, h.at_ 2 rfl, h.at_ 3 rfl, h.at_ 4 rfl, h.at_ 5 rfl, h.at_ 6 rfl, h.at_ 7 rfl, h.at_ 8 rfl, h.at_ 9 rfl, h.at_ 10 rfl, h.at_ 11 rfl⟩
set_option maxRecDepth 100000 in
set_option maxHeartbeats 4000000 in
theorem fnChainDNS_calls (p e : List ByteArray) (s : ByteArray) (pA eA : Option Addr) (pc ec : Nat) (w : World) (hL : Laid w)
    (hp : Reads w w.heap.size 1 pA p.length (p.map .string)) (he : Reads w w.heap.size 1 eA e.length (e.map .string))
    (sp : ∀ x ∈ p, x.size ≤ 9000000000000000000) (se : ∀ x ∈ e, x.size ≤ 9000000000000000000) (lp : p.length ≤ 9000000000000000000) (le : e.length ≤ 9000000000000000000) (hs : s.size ≤ 9000000000000000000) :
    Calls Tryz.prog 3 #[.slice pA p.length pc, .slice eA e.length ec, .string s] w fun x w' => x = .returned (.bool true) ∧ Below w.heap.size w w' := by
  have F1 := Lib.hid (fits4_calls pA p pc w hp.cellAt lp sp)
  have F2 := Lib.hid (fits4_calls eA e ec w he.cellAt le se)
  have P1 := Lib.hid (fun h1 h2 => plain_calls pA p pc w hp.cellAt h1 h2)
  have P2 := Lib.hid (fun h1 h2 => plain_calls eA e ec w he.cellAt h1 h2)
  have HP := Lib.hid hp
  have HE := Lib.hid he
  have HL := Lib.hid hL
  clear hp he hL sp se
  go_enter Tryz.func3, Tryz.ntmps3
  go_wp2_with (fail)
  refine F1.out.mono ?_
  rintro x w1 ⟨b1, rfl, rfl, f1⟩
  clear F1
  cases b1 with
  | false =>
    clear f1 F2 P1 P2 HP HE HL
    go_wp2
    go_ret
    exact ⟨rfl, Below.refl _ _⟩
  | true =>
  obtain ⟨lp1, sp1⟩ := f1 rfl
  have SP1 := Lib.hid sp1
  clear f1 sp1
  go_wp2_with (fail)
  refine F2.out.mono ?_
  rintro x w1 ⟨b2, rfl, rfl, f2⟩
  clear F2
  cases b2 with
  | false =>
    clear f2 P1 P2 HP HE HL
    go_wp2
    go_ret
    exact ⟨rfl, Below.refl _ _⟩
  | true =>
  obtain ⟨le1, se1⟩ := f2 rfl
  have SE1 := Lib.hid se1
  clear f2 se1
  by_cases h0 : s.size ≤ 2147483647
  case neg =>
    clear P1 P2 HP HE HL
    go_wp2
    go_ret
    exact ⟨rfl, Below.refl _ _⟩
  by_cases h1 : p.length ≤ 20
  case neg =>
    clear P1 P2 HP HE HL
    go_wp2
    go_ret
    exact ⟨rfl, Below.refl _ _⟩
  by_cases h2 : e.length ≤ 20
  case neg =>
    clear P1 P2 HP HE HL
    go_wp2
    go_ret
    exact ⟨rfl, Below.refl _ _⟩
  have Q1 := Lib.hid (P1.out (by omega) SP1.out)
  have Q2 := Lib.hid (P2.out (by omega) SE1.out)
  clear P1 P2 SP1 SE1
  cases hpl : p.all plainS with
  | false =>
    rw [hpl] at Q1
    clear Q2 HP HE HL hpl
    go_wp2_with (fail)
    refine Q1.out.mono ?_
    rintro x w1 ⟨rfl, rfl⟩
    go_wp2
    go_ret
    exact ⟨rfl, Below.refl _ _⟩
  | true =>
  have PP := Lib.hid (plain_ok p hpl)
  rw [hpl] at Q1
  clear hpl
  go_wp2_with (fail)
  refine Q1.out.mono ?_
  rintro x w1 ⟨rfl, rfl⟩
  clear Q1
  cases hel : e.all plainS with
  | false =>
    rw [hel] at Q2
    clear HP HE HL hel
    go_wp2_with (fail)
    refine Q2.out.mono ?_
    rintro x w1 ⟨rfl, rfl⟩
    go_wp2
    go_ret
    exact ⟨rfl, Below.refl _ _⟩
  | true =>
  have PE := Lib.hid (plain_ok e hel)
  rw [hel] at Q2
  clear hel
  go_wp2_with (fail)
  refine Q2.out.mono ?_
  rintro x w1 ⟨rfl, rfl⟩
  clear Q2
  by_cases h3 : s.size ≤ 200
  case neg =>
    clear HP HE HL PP PE
    go_wp2
    go_ret
    exact ⟨rfl, Below.refl _ _⟩
  have N1 := Lib.hid (nameOk_calls s w (by omega))
  cases hn : nameB s with
  | false =>
    rw [hn] at N1
    clear HP HE HL PP PE hn
    go_wp2_with (fail)
    refine N1.out.mono ?_
    rintro x w1 ⟨rfl, hb⟩
    go_wp2
    go_ret
    exact ⟨rfl, hb⟩
  | true =>
  have FN := Lib.hid (nameB_fit s hn)
  rw [hn] at N1
  clear hn
  go_wp2_with (fail)
  refine N1.out.mono ?_
  rintro x w1 ⟨rfl, hb⟩
  clear N1
  go_wp2_with (fail)
  have hb1 := hb.alloc hb.size (.cells #[.string s] 9)
  have hz1 : (w1.alloc (.cells #[.string s] 9)).heap.size = w1.heap.size + 1 := Array.size_push _
  have hs1 := Blk.new w1 9 #[.string s]
  generalize w1.alloc (.cells #[.string s] 9) = W1 at *
  have hb2 := hb1.alloc hb1.size (.cells #[.slice pA p.length pc, .slice none 0 0, .slice none 0 0, .slice none 0 0, .slice eA e.length ec, .slice none 0 0, .slice none 0 0, .slice none 0 0, .slice (some ⟨w1.heap.size, 0, none⟩) 1 1, .slice none 0 0, .slice none 0 0, .slice none 0 0] 30)
  have hs2 := hs1.alloc (.cells #[.slice pA p.length pc, .slice none 0 0, .slice none 0 0, .slice none 0 0, .slice eA e.length ec, .slice none 0 0, .slice none 0 0, .slice none 0 0, .slice (some ⟨w1.heap.size, 0, none⟩) 1 1, .slice none 0 0, .slice none 0 0, .slice none 0 0] 30)
  have hc := Blk.new W1 30 #[.slice pA p.length pc, .slice none 0 0, .slice none 0 0, .slice none 0 0, .slice eA e.length ec, .slice none 0 0, .slice none 0 0, .slice none 0 0, .slice (some ⟨w1.heap.size, 0, none⟩) 1 1, .slice none 0 0, .slice none 0 0, .slice none 0 0]
  rw [hz1] at hc
  generalize W1.alloc (.cells #[.slice pA p.length pc, .slice none 0 0, .slice none 0 0, .slice none 0 0, .slice eA e.length ec, .slice none 0 0, .slice none 0 0, .slice none 0 0, .slice (some ⟨w1.heap.size, 0, none⟩) 1 1, .slice none 0 0, .slice none 0 0, .slice none 0 0] 30) = W2 at *
  have hbad : dnsBad ⟨[], [], [s]⟩ ⟨p, e, []⟩ = ruledOut (askDns p s) (askDns e s) := by simp [dnsBad]
  have K1 := Lib.hid (fun (W : World) (hW : Below w.heap.size w W) => checkDns_calls pA eA p e pc ec s W ((HP.out.below hW).more hW.size) ((HE.out.below hW).more hW.size) PP.out PE.out (by omega) (by omega) FN.out (HL.out.keep hW))
  have K2 := fun (W : World) (hW : Below w.heap.size w W) (hS : Blk W w1.heap.size 9 #[.string s]) => alone_calls p e [s] pA eA (some ⟨w1.heap.size, 0, none⟩) pc ec 1 W (HL.out.keep hW) ((HP.out.below hW).more hW.size) ((HE.out.below hW).more hW.size)
    ⟨rfl, fun _ => ⟨_, rfl, hS.lt, fun j u hu => by
      cases j with
      | zero => simp only [List.map_cons, List.getElem?_cons_zero, Option.some.injEq] at hu; subst hu; exact hS.at_ 0 rfl
      | succ j => simp at hu⟩⟩ PP.out PE.out (fun x hx => by simp only [List.mem_singleton] at hx; subst hx; exact FN.out) (by omega) (by omega) (by simp)
  rw [hbad] at K2
  unfold nilS at K2
  simp only [List.length_singleton] at K2
  have KK := Lib.hid K2
  clear K2 hbad hz1 hs1 hb1 hb HP HE HL PP PE FN
  generalize ruledOut (askDns p s) (askDns e s) = R at *
  go_region_held3 (fun W => W.cell? ⟨w1.heap.size + 1, 0, none⟩ = some (.slice pA p.length pc) ∧ W.cell? ⟨w1.heap.size + 1, 1, none⟩ = some (.slice none 0 0) ∧ W.cell? ⟨w1.heap.size + 1, 2, none⟩ = some (.slice none 0 0) ∧ W.cell? ⟨w1.heap.size + 1, 3, none⟩ = some (.slice none 0 0) ∧ W.cell? ⟨w1.heap.size + 1, 4, none⟩ = some (.slice eA e.length ec) ∧ W.cell? ⟨w1.heap.size + 1, 5, none⟩ = some (.slice none 0 0) ∧ W.cell? ⟨w1.heap.size + 1, 6, none⟩ = some (.slice none 0 0) ∧ W.cell? ⟨w1.heap.size + 1, 7, none⟩ = some (.slice none 0 0) ∧ W.cell? ⟨w1.heap.size + 1, 8, none⟩ = some (.slice (some ⟨w1.heap.size, 0, none⟩) 1 1) ∧ W.cell? ⟨w1.heap.size + 1, 9, none⟩ = some (.slice none 0 0) ∧ W.cell? ⟨w1.heap.size + 1, 10, none⟩ = some (.slice none 0 0) ∧ W.cell? ⟨w1.heap.size + 1, 11, none⟩ = some (.slice none 0 0))
    (first | exact cells12' hc.drew | exact cells12' d1 | exact cells12' d2)
    (first
      | (go_at_call 15; (with_reducible refine (K1.out _ hb2.drew).mono ?_); rintro x u1 ⟨rfl, q1⟩; have d1 := hc.drew.later q1; have e1 := hs2.drew.later q1; have f1 := hb2.drew.trans (q1.mono hb2.drew.size))
      | (go_at_call 14; (with_reducible refine (KK.out _ f1 e1).mono ?_); rintro x u2 ⟨rfl, q2⟩; have d2 := d1.later q2; have f2 := f1.trans (q2.mono f1.size)))
  go_wp2
  go_ret
  exact ⟨rfl, f2⟩
end Go.Proofs.YtblabjfjhlablaaGreatDoor
