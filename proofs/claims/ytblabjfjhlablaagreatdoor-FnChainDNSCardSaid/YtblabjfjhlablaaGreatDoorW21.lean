/- The walks of ZZCheckDNS and CheckDNS. -/
import Derived.Test.YtblabjfjhlablaaGreatDoorW18
namespace Go.Proofs.YtblabjfjhlablaaGreatDoor
open Go.RowKit Nc
def noT (k : Nat) : ByteArray := match k with | 1 => txDNS | _ => ⟨#[]⟩
def ifs2 (a b : Value) (k : Nat) : Value := match k with | 2 => a | 3 => b | _ => .nilIface
set_option maxRecDepth 100000 in
set_option maxHeartbeats 2000000 in
theorem zzCheckDns_calls (p e : List ByteArray) (s : ByteArray) (vp ve : Value) (w : World) (hp : SRow w 9 vp (p.map .string)) (he : SRow w 9 ve (e.map .string)) (pp : PlainL p) (pe : PlainL e) (lp : p.length ≤ 1000000) (le : e.length ≤ 1000000) (hs : FitName s) (hL : Laid w) :
    Calls Tryz.prog 40 #[vp, ve, .string s] w (Says (ruledOut (askDns p s) (askDns e s)) w) := by
  have h1 := Lib.hid (newDns_makes p true vp w hp lp pp hL)
  have h2 := Lib.hid (fun W (hW : Below w.heap.size w W) => newDns_makes e false ve W (he.later hW) le pe (hL.keep hW))
  have hok : (⟨p, e, [s]⟩ : DCert).Ok := ⟨pp, pe, fun x hx => by simp only [List.mem_singleton] at hx; subst hx; exact hs, lp, le, by simp⟩
  have hbad : dnsBad ⟨p, e, [s]⟩ ⟨p, e, [s]⟩ = ruledOut (askDns p s) (askDns e s) := by simp [dnsBad]
  have h3 := fun (a : Nat → Value) (j b : Nat) (nx v1 v2 v3 v4 : Value) (W : World) => dnsCheck_calls ⟨p, e, [s]⟩ ⟨p, e, [s]⟩ noT (by decide) a j b nx v1 v2 v3 v4 W hok
  rw [hbad] at h3
  have H3 := Lib.hid h3
  generalize ruledOut (askDns p s) (askDns e s) = R at *
  clear hp he pp pe lp le hs hL hok hbad h3
  go_enter Tryz.func40, Tryz.ntmps40
  go_wp2_with (fail)
  refine h1.out.mono ?_
  rintro x w1 ⟨u1, rfl, uc1, uo1, f1, b1⟩
  unfold Value.cells at uc1
  go_wp2_with (fail)
  refine (h2.out _ b1).mono ?_
  rintro x w2 ⟨u2, rfl, uc2, uo2, f2, b2⟩
  unfold Value.cells at uc2
  have hC : Blk (w2.alloc (.cells #[.string ⟨#[]⟩, .nilIface, .nilIface, .string ⟨#[68, 78, 83, 32, 110, 97, 109, 101]⟩, u1, u2, .string ⟨#[]⟩, .nilIface, .nilIface, .string ⟨#[]⟩, .nilIface, .nilIface, .int .i64 0, .pointer none] 100)) w2.heap.size 100 (ccT noT (ifs2 u1 u2) 0 (.pointer none)) := Blk.new w2 100 _
  have hA1 : Below w2.heap.size w2 (w2.alloc (.cells #[.string ⟨#[]⟩, .nilIface, .nilIface, .string ⟨#[68, 78, 83, 32, 110, 97, 109, 101]⟩, u1, u2, .string ⟨#[]⟩, .nilIface, .nilIface, .string ⟨#[]⟩, .nilIface, .nilIface, .int .i64 0, .pointer none] 100)) := (Below.refl _ _).alloc (Nat.le_refl _) _
  have hz : (w2.alloc (.cells #[.string ⟨#[]⟩, .nilIface, .nilIface, .string ⟨#[68, 78, 83, 32, 110, 97, 109, 101]⟩, u1, u2, .string ⟨#[]⟩, .nilIface, .nilIface, .string ⟨#[]⟩, .nilIface, .nilIface, .int .i64 0, .pointer none] 100)).heap.size = w2.heap.size + 1 := Array.size_push _
  have hS := Blk.new (w2.alloc (.cells #[.string ⟨#[]⟩, .nilIface, .nilIface, .string ⟨#[68, 78, 83, 32, 110, 97, 109, 101]⟩, u1, u2, .string ⟨#[]⟩, .nilIface, .nilIface, .string ⟨#[]⟩, .nilIface, .nilIface, .int .i64 0, .pointer none] 100)) 9 #[.string s]
  rw [hz] at hS
  generalize hW1 : w2.alloc (.cells #[.string ⟨#[]⟩, .nilIface, .nilIface, .string ⟨#[68, 78, 83, 32, 110, 97, 109, 101]⟩, u1, u2, .string ⟨#[]⟩, .nilIface, .nilIface, .string ⟨#[]⟩, .nilIface, .nilIface, .int .i64 0, .pointer none] 100) = W1 at *
  have hA2 : Below w2.heap.size w2 (W1.alloc (.cells #[.string s] 9)) := hA1.alloc hA1.size _
  have hC2 := hC.alloc (.cells #[.string s] 9)
  have hB := (b1.trans (b2.mono b1.size)).trans (hA2.mono (b1.trans (b2.mono b1.size)).size)
  have hrow : SRow (W1.alloc (.cells #[.string s] 9)) 9 (.slice (some ⟨w2.heap.size + 1, 0, none⟩) 1 1) ([s].map .string) :=
    .inr ⟨_, 1, _, rfl, hS, by simp, by simp [maxLen], by simp, fun j u hu => by
      cases j with
      | zero => simpa using hu
      | succ j => simp at hu⟩
  have hq : Calls Tryz.prog 74 #[.pointer (some ⟨w2.heap.size, 0, none⟩), .slice (some ⟨w2.heap.size + 1, 0, none⟩) 1 1, .slice none 0 0, .slice none 0 0, .slice none 0 0] (W1.alloc (.cells #[.string s] 9)) (Says R (W1.alloc (.cells #[.string s] 9))) :=
    H3.out (ifs2 u1 u2) 0 w2.heap.size (.pointer none) _ (.slice none 0 0) (.slice none 0 0) (.slice none 0 0) _ ((f1.later b2).later hA2) (f2.later hA2) hC2 hrow ⟨_, _, rfl⟩ ⟨_, _, rfl⟩ ⟨_, _, rfl⟩
  subst hW1
  have HQ := Lib.hid hq
  have HB := Lib.hid hB
  clear hq hrow hB hS hC2 hA2 hA1 hC f1 f2 b1 b2 H3 h1 h2 hz
  go_wp2_with (fail)
  refine HQ.out.mono ?_
  rintro x w3 ⟨v, rfl, b3, s3⟩
  have hB := HB.out.trans (b3.mono HB.out.size)
  have HS3 := Lib.hid s3
  clear HQ HB b3 s3
  go_wp2
  go_ret
  exact ⟨_, rfl, hB, HS3.out⟩
set_option maxRecDepth 100000 in
theorem checkDns_calls (pA eA : Option Addr) (p e : List ByteArray) (pc ec : Nat) (s : ByteArray) (w : World) (hp : Reads w w.heap.size 1 pA p.length (p.map .string)) (he : Reads w w.heap.size 1 eA e.length (e.map .string)) (pp : PlainL p) (pe : PlainL e) (lp : p.length ≤ 1000000) (le : e.length ≤ 1000000) (hs : FitName s) (hL : Laid w) :
    Calls Tryz.prog 15 #[.slice pA p.length pc, .slice eA e.length ec, .string s] w fun x w' => x = .returned (.int .i64 (codeB (ruledOut (askDns p s) (askDns e s)))) ∧ Below w.heap.size w w' := by
  obtain ⟨i0, hi0, hz0, hz1, hz2⟩ := info_parts str_info
  have HZ := Lib.hid (fun vp ve (W : World) (hW : Below w.heap.size w W) (hp : SRow W 9 vp (p.map .string)) (he : SRow W 9 ve (e.map .string)) => zzCheckDns_calls p e s vp ve W hp he pp pe lp le hs (hL.keep hW))
  have HP := Lib.hid hp
  have HE := Lib.hid he
  generalize ruledOut (askDns p s) (askDns e s) = R at *
  clear hp he pp pe hs hL
  go_enter Tryz.func15, Tryz.ntmps15
  go_wp2_with (first
    | (at_builtin
       refine wpList_append_any _ rfl _ (.tmp 7) _ rfl w.heap.size 9 i0 _ 1 16 Tryz.underlying22 hi0 hz0 hz1 hz2 rfl (by omega) (.slice none 0 0) 0 [] rfl (nil_own0 _ _ _) w.heap.size pA p.length pc _ rfl HP.out (ones_strings _) (le_max lp) (le_by lp) (Nat.le_refl _) ?_
       intro v1 w1 o1 g1 a1
       have c1 := app_below g1
       have t1 := Lib.hid (app_row o1)
       have hq := Lib.hid (HE.out.below c1)
       have s1 := Lib.hid c1.size
       clear o1 g1 a1)
    | (at_builtin
       refine wpList_append_any _ rfl _ (.tmp 9) _ rfl w.heap.size 9 i0 _ 1 16 Tryz.underlying22 hi0 hz0 hz1 hz2 rfl (by omega) (.slice none 0 0) 0 [] rfl (nil_own0 _ _ _) w.heap.size eA e.length ec _ rfl hq.out (ones_strings _) (le_max le) (le_by le) s1.out ?_
       intro v2 w2 o2 g2 a2
       have c2 := app_below g2
       have t2 := app_row o2
       have hB := c1.trans (c2.mono c1.size)
       have HQ := Lib.hid (HZ.out v1 v2 w2 hB (t1.out.later c2) t2)
       clear o2 g2 a2 hq t1 t2 c1 c2 s1 HZ)
    | fail)
  refine HQ.out.mono ?_
  rintro x w3 ⟨v, rfl, b3, s3⟩
  have hB3 := hB.trans (b3.mono hB.size)
  have hco := Lib.hid (codeOf_b v R w3 s3)
  clear s3 b3 HQ
  go_wp2_with (fail)
  refine hco.out.mono ?_
  rintro x w4 ⟨rfl, rfl⟩
  go_wp2
  go_ret
  exact ⟨rfl, hB3⟩
end Go.Proofs.YtblabjfjhlablaaGreatDoor
