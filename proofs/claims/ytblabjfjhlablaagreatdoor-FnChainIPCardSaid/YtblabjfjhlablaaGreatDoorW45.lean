/- The walks of ZZCheckURI, CheckURI, ZZCheckMail and CheckMail. -/
import Derived.Test.YtblabjfjhlablaaGreatDoorW44
namespace Go.Proofs.YtblabjfjhlablaaGreatDoor
open Go.RowKit Nc
def oneT (i : Nat) (t : ByteArray) (k : Nat) : ByteArray := if k = i then t else ⟨#[]⟩
def atK {α : Type} (i : Nat) (x y : α) (k : Nat) : α := if k = i then x else y
theorem oneT_le (i : Nat) (t : ByteArray) (h : t.size ≤ 100) : ∀ k, (oneT i t k).size ≤ 100 := fun k => by
  unfold oneT
  split
  · exact h
  · exact Nat.zero_le _
/-- A certificate of one kind. -/
def oneC (i : Nat) (p e s : List ByteArray) : GC := { p := atK i p [], e := atK i e [], s := atK i s [], pn := [], en := [], ad := [] }
theorem len4_atK (i : Nat) (l : List ByteArray) (h : l.length ≤ 1000000) : ∀ k, len4 (atK i l []) 0 k ≤ 1000000 := fun k => by
  have h2 : ∀ j, (atK i l [] j).length ≤ 1000000 := fun j => by
    unfold atK
    split
    · exact h
    · exact Nat.zero_le _
  match k with
  | 0 => exact h2 0
  | 1 => exact h2 1
  | 2 => exact h2 2
  | k + 3 => exact Nat.zero_le _
theorem oneC_ok (i : Nat) (p e s : List ByteArray) (pp : PlainL p) (pe : PlainL e) (lp : p.length ≤ 1000000) (le : e.length ≤ 1000000) (ls : s.length ≤ 1000000) (h0 : i = 0 → ∀ x ∈ s, FitName x) (h1 : i = 1 → ∀ x ∈ s, FitBox x) (h2 : i = 2 → ∀ x ∈ s, nameB x = true) : (oneC i p e s).Ok X0 where
  p := fun k _ x hx => by
    simp only [oneC, atK] at hx
    split at hx
    · exact pp x hx
    · cases hx
  e := fun k _ x hx => by
    simp only [oneC, atK] at hx
    split at hx
    · exact pe x hx
    · cases hx
  dns := fun x hx => by
    simp only [oneC, atK] at hx
    split at hx
    · rename_i h; exact h0 h.symm x hx
    · cases hx
  box := fun x hx => by
    simp only [oneC, atK] at hx
    split at hx
    · rename_i h; exact h1 h.symm x hx
    · cases hx
  host := fun x hx => by
    simp only [oneC, atK] at hx
    split at hx
    · rename_i h; exact h2 h.symm x hx
    · cases hx
  pn := rfl
  en := rfl
  ad := fun a ha => by simp [oneC] at ha
  lp := len4_atK i p lp
  le := len4_atK i e le
  ls := len4_atK i s ls
def hostBad (p e : List ByteArray) (s : ByteArray) : Bool := ruledOut (askDns p (lowS s)) (askDns e (lowS s))
def mailBad (p e : List ByteArray) (s : ByteArray) : Bool := ruledOut (askMail p (boxOf s).1 (boxOf s).2) (askMail e (boxOf s).1 (boxOf s).2)
theorem oneC_host (p e : List ByteArray) (s : ByteArray) : gBad X0 (oneC 2 p e [s]) (oneC 2 p e [s]) = hostBad p e s := by
  simp [gBad, oneC, atK, hostBad]
theorem oneC_mail (p e : List ByteArray) (s : ByteArray) : gBad X0 (oneC 1 p e [s]) (oneC 1 p e [s]) = mailBad p e s := by
  simp [gBad, oneC, atK, mailBad]
def ifsK (i : Nat) (a b : Value) (k : Nat) : Value := if k = i then a else if k = i + 1 then b else .nilIface
theorem one_each {w : World} {g : Nat} {s : ByteArray} (h : Blk w g 9 #[.string s]) : ∀ k, (hk : k < [s].length) → ∃ ad, (some (⟨g, 0, none⟩ : Addr)) = some ad ∧ w.cell? (ad.add k) = some (.string [s][k]) := fun k hk => by
  obtain rfl : k = 0 := by simpa using hk
  exact ⟨_, rfl, h.at_ 0 rfl⟩
theorem newMail_row (l : List ByteArray) (perm : Bool) (v : Value) (w : World) (hv : SRow w 9 v (l.map .string)) (hl : l.length ≤ 1000000) (hok : PlainL l) (hL : Laid w) :
    Calls Tryz.prog 77 #[v, .bool perm] w (Makes (fun W u => IsMail W l perm u) w) := by
  obtain ⟨A, c, rfl, h⟩ := hv.each
  exact newMail_calls l perm A c w h hl hok hL
theorem Row2.later {t : TypeId} {f : ByteArray → ByteArray × ByteArray} {w w' : World} {l : List ByteArray} {v : Value} (h : Row2 t f w l v) (hb : Below w.heap.size w w') : Row2 t f w' l v := Reads2.later h hb
theorem UriRow.later {w w' : World} {l : List ByteArray} {v : Value} (h : UriRow w l v) (hb : Below w.heap.size w w') : UriRow w' l v := Reads2.later h hb
theorem MailRow.later {w w' : World} {l : List ByteArray} {v : Value} (h : MailRow w l v) (hb : Below w.heap.size w w') : MailRow w' l v := Reads2.later h hb
set_option maxRecDepth 100000 in
set_option maxHeartbeats 2000000 in
theorem zzCheckUri_calls (p e : List ByteArray) (s : ByteArray) (vp ve : Value) (w : World) (hp : SRow w 9 vp (p.map .string)) (he : SRow w 9 ve (e.map .string)) (pp : PlainL p) (pe : PlainL e) (lp : p.length ≤ 1000000) (le : e.length ≤ 1000000) (hs : nameB s = true) (hL : Laid w) :
    Calls Tryz.prog 56 #[vp, ve, .string s] w (Says (hostBad p e s) w) := by
  have h0 := Lib.hid (fun (g : Nat) (W : World) (hS : Blk W g 9 #[.string s]) => parseURIs_calls [s] (some ⟨g, 0, none⟩) 1 W (one_each hS) (by simp) (fun x hx => by simp only [List.mem_singleton] at hx; subst hx; exact hs))
  have h1 := Lib.hid (fun W (hW : Below w.heap.size w W) => newDns_makes p true vp W (hp.later hW) lp pp (hL.keep hW))
  have h2 := Lib.hid (fun W (hW : Below w.heap.size w W) => newDns_makes e false ve W (he.later hW) le pe (hL.keep hW))
  have hok := oneC_ok 2 p e [s] pp pe lp le (by simp) (fun h => absurd h (by decide)) (fun h => absurd h (by decide)) (fun _ x hx => by simp only [List.mem_singleton] at hx; subst hx; exact hs)
  have h3 := fun (a : Nat → Value) (j b : Nat) (nx v1 v2 v3 v4 : Value) (W : World) => gCheck_calls X0 X0_fit (oneC 2 p e [s]) (oneC 2 p e [s]) (oneT 2 txURI) (oneT_le 2 txURI (by decide)) a j b nx v1 v2 v3 v4 W hok ⟨rfl, rfl⟩
  rw [oneC_host] at h3
  have H3 := Lib.hid h3
  generalize hostBad p e s = R at *
  clear hp he pp pe lp le hs hL hok h3
  have hA0 : Below w.heap.size w (w.alloc (.cells #[.string s] 9)) := (Below.refl _ _).alloc (Nat.le_refl _) _
  have hS := Blk.new w 9 #[.string s]
  have HP := Lib.hid (h0.out _ _ hS)
  clear h0 hS
  go_enter Tryz.func56, Tryz.ntmps56
  go_wp2_with (fail)
  refine HP.out.mono ?_
  rintro x w0 ⟨vr, rfl, hr, b0⟩
  have hB0 := hA0.trans (b0.mono hA0.size)
  clear HP hA0 b0
  go_wp2_with (fail)
  refine (h1.out _ hB0).mono ?_
  rintro x w1 ⟨u1, rfl, uc1, uo1, f1, b1⟩
  unfold Value.cells at uc1
  have hB1 := hB0.trans (b1.mono hB0.size)
  go_wp2_with (fail)
  refine (h2.out _ hB1).mono ?_
  rintro x w2 ⟨u2, rfl, uc2, uo2, f2, b2⟩
  unfold Value.cells at uc2
  have hB2 := hB1.trans (b2.mono hB1.size)
  have hC : Blk (w2.alloc (.cells #[.string ⟨#[]⟩, .nilIface, .nilIface, .string ⟨#[]⟩, .nilIface, .nilIface, .string ⟨#[85, 82, 73]⟩, u1, u2, .string ⟨#[]⟩, .nilIface, .nilIface, .int .i64 0, .pointer none] 100)) w2.heap.size 100 (ccT (oneT 2 txURI) (ifsK 4 u1 u2) 0 (.pointer none)) := Blk.new w2 100 _
  have hA1 : Below w2.heap.size w2 (w2.alloc (.cells #[.string ⟨#[]⟩, .nilIface, .nilIface, .string ⟨#[]⟩, .nilIface, .nilIface, .string ⟨#[85, 82, 73]⟩, u1, u2, .string ⟨#[]⟩, .nilIface, .nilIface, .int .i64 0, .pointer none] 100)) := (Below.refl _ _).alloc (Nat.le_refl _) _
  have hrr := (hr.later b1).later b2
  have hq := H3.out (ifsK 4 u1 u2) 0 w2.heap.size (.pointer none) (.slice none 0 0) vr (.slice none 0 0) (.slice none 0 0) _ ⟨rfl, rfl⟩ ⟨rfl, rfl⟩ (.inl ⟨rfl, rfl⟩) (.inl ⟨rfl, rfl⟩) ((f1.later b2).later hA1) (f2.later hA1) (.inl ⟨rfl, rfl⟩) (.inl ⟨rfl, rfl⟩) hC (.inl ⟨rfl, rfl⟩) (hrr.later hA1) ⟨none, 0, rfl, fun h => absurd h (by simp [oneC, atK])⟩ ⟨rfl, rfl⟩
  have HQ := Lib.hid hq
  have HB := Lib.hid (hB2.trans (hA1.mono hB2.size))
  clear hq hB2 hB1 hB0 hA1 hC f1 f2 b1 b2 H3 h1 h2 hrr hr
  go_wp2_with (fail)
  refine HQ.out.mono ?_
  rintro x w3 ⟨v, rfl, b3, s3⟩
  have hB := HB.out.trans (b3.mono HB.out.size)
  have HS3 := Lib.hid s3
  clear HQ HB b3 s3
  go_wp2
  go_ret
  exact ⟨_, rfl, hB, HS3.out⟩
set_option maxRecDepth 100000 in
theorem checkUri_calls (pA eA : Option Addr) (p e : List ByteArray) (pc ec : Nat) (s : ByteArray) (w : World) (hp : Reads w w.heap.size 1 pA p.length (p.map .string)) (he : Reads w w.heap.size 1 eA e.length (e.map .string)) (pp : PlainL p) (pe : PlainL e) (lp : p.length ≤ 1000000) (le : e.length ≤ 1000000) (hs : nameB s = true) (hL : Laid w) :
    Calls Tryz.prog 22 #[.slice pA p.length pc, .slice eA e.length ec, .string s] w fun x w' => x = .returned (.int .i64 (codeB (hostBad p e s))) ∧ Below w.heap.size w w' := by
  obtain ⟨i0, hi0, hz0, hz1, hz2⟩ := info_parts str_info
  have HZ := Lib.hid (fun vp ve (W : World) (hW : Below w.heap.size w W) (hp : SRow W 9 vp (p.map .string)) (he : SRow W 9 ve (e.map .string)) => zzCheckUri_calls p e s vp ve W hp he pp pe lp le hs (hL.keep hW))
  have HP := Lib.hid hp
  have HE := Lib.hid he
  generalize hostBad p e s = R at *
  clear hp he pp pe hs hL
  go_enter Tryz.func22, Tryz.ntmps22
  go_wp2_with (first
    | (at_builtin
       refine wpList_append_any _ rfl _ (.tmp 7) _ rfl w.heap.size 9 i0 _ 1 16 Tryz.underlying22 hi0 hz0 hz1 hz2 rfl (by omega) (.slice none 0 0) 0 [] rfl (nil_own0 _ _ _) w.heap.size pA p.length pc _ rfl HP.out (ones_strings _) (le_max lp) (le_by lp) (Nat.le_refl _) ?_
       intro v1 w1 o1 g1 a1
       have c1 := app_below g1
       have t1 := Lib.hid (app_row o1)
       have hq := Lib.hid (HE.out.below c1)
       have s1 := Lib.hid c1.size
       clear o1 g1 a1)
    | (at_builtin
       refine wpList_append_any _ rfl _ (.tmp 9) _ rfl w.heap.size 9 i0 _ 1 16 Tryz.underlying22 hi0 hz0 hz1 hz2 rfl (by omega) (.slice none 0 0) 0 [] rfl (nil_own0 _ _ _) w.heap.size eA e.length ec _ rfl hq.out (ones_strings _) (le_max le) (le_by le) s1.out ?_
       intro v2 w2 o2 g2 a2
       have c2 := app_below g2
       have t2 := app_row o2
       have hB := c1.trans (c2.mono c1.size)
       have HQ := Lib.hid (HZ.out v1 v2 w2 hB (t1.out.later c2) t2)
       clear o2 g2 a2 hq t1 t2 c1 c2 s1 HZ)
    | fail)
  refine HQ.out.mono ?_
  rintro x w3 ⟨v, rfl, b3, s3⟩
  have hB3 := hB.trans (b3.mono hB.size)
  have hco := Lib.hid (codeOf_b v R w3 s3)
  clear s3 b3 HQ
  go_wp2_with (fail)
  refine hco.out.mono ?_
  rintro x w4 ⟨rfl, rfl⟩
  go_wp2
  go_ret
  exact ⟨rfl, hB3⟩
set_option maxRecDepth 100000 in
set_option maxHeartbeats 2000000 in
theorem zzCheckMail_calls (p e : List ByteArray) (s : ByteArray) (vp ve : Value) (w : World) (hp : SRow w 9 vp (p.map .string)) (he : SRow w 9 ve (e.map .string)) (pp : PlainL p) (pe : PlainL e) (lp : p.length ≤ 1000000) (le : e.length ≤ 1000000) (hs : FitBox s) (hL : Laid w) :
    Calls Tryz.prog 43 #[vp, ve, .string s] w (Says (mailBad p e s) w) := by
  have h0 := Lib.hid (fun (g : Nat) (W : World) (hS : Blk W g 9 #[.string s]) => parseMails_calls [s] (some ⟨g, 0, none⟩) 1 W (one_each hS) (by simp) (fun x hx => by simp only [List.mem_singleton] at hx; subst hx; exact ⟨hs.size, hs.parsed⟩))
  have h1 := Lib.hid (fun W (hW : Below w.heap.size w W) => newMail_row p true vp W (hp.later hW) lp pp (hL.keep hW))
  have h2 := Lib.hid (fun W (hW : Below w.heap.size w W) => newMail_row e false ve W (he.later hW) le pe (hL.keep hW))
  have hok := oneC_ok 1 p e [s] pp pe lp le (by simp) (fun h => absurd h (by decide)) (fun _ x hx => by simp only [List.mem_singleton] at hx; subst hx; exact hs) (fun h => absurd h (by decide))
  have h3 := fun (a : Nat → Value) (j b : Nat) (nx v1 v2 v3 v4 : Value) (W : World) => gCheck_calls X0 X0_fit (oneC 1 p e [s]) (oneC 1 p e [s]) (oneT 3 txMail) (oneT_le 3 txMail (by decide)) a j b nx v1 v2 v3 v4 W hok ⟨rfl, rfl⟩
  rw [oneC_mail] at h3
  have H3 := Lib.hid h3
  generalize mailBad p e s = R at *
  clear hp he pp pe lp le hs hL hok h3
  have hA0 : Below w.heap.size w (w.alloc (.cells #[.string s] 9)) := (Below.refl _ _).alloc (Nat.le_refl _) _
  have hS := Blk.new w 9 #[.string s]
  have HP := Lib.hid (h0.out _ _ hS)
  clear h0 hS
  go_enter Tryz.func43, Tryz.ntmps43
  go_wp2_with (fail)
  refine HP.out.mono ?_
  rintro x w0 ⟨vr, rfl, hr, b0⟩
  have hB0 := hA0.trans (b0.mono hA0.size)
  clear HP hA0 b0
  go_wp2_with (fail)
  refine (h1.out _ hB0).mono ?_
  rintro x w1 ⟨u1, rfl, uc1, uo1, f1, b1⟩
  unfold Value.cells at uc1
  have hB1 := hB0.trans (b1.mono hB0.size)
  go_wp2_with (fail)
  refine (h2.out _ hB1).mono ?_
  rintro x w2 ⟨u2, rfl, uc2, uo2, f2, b2⟩
  unfold Value.cells at uc2
  have hB2 := hB1.trans (b2.mono hB1.size)
  have hC : Blk (w2.alloc (.cells #[.string ⟨#[]⟩, .nilIface, .nilIface, .string ⟨#[]⟩, .nilIface, .nilIface, .string ⟨#[]⟩, .nilIface, .nilIface, .string ⟨#[101, 109, 97, 105, 108, 32, 97, 100, 100, 114, 101, 115, 115]⟩, u1, u2, .int .i64 0, .pointer none] 100)) w2.heap.size 100 (ccT (oneT 3 txMail) (ifsK 6 u1 u2) 0 (.pointer none)) := Blk.new w2 100 _
  have hA1 : Below w2.heap.size w2 (w2.alloc (.cells #[.string ⟨#[]⟩, .nilIface, .nilIface, .string ⟨#[]⟩, .nilIface, .nilIface, .string ⟨#[]⟩, .nilIface, .nilIface, .string ⟨#[101, 109, 97, 105, 108, 32, 97, 100, 100, 114, 101, 115, 115]⟩, u1, u2, .int .i64 0, .pointer none] 100)) := (Below.refl _ _).alloc (Nat.le_refl _) _
  have hrr := (hr.later b1).later b2
  have hq := H3.out (ifsK 6 u1 u2) 0 w2.heap.size (.pointer none) (.slice none 0 0) (.slice none 0 0) vr (.slice none 0 0) _ ⟨rfl, rfl⟩ ⟨rfl, rfl⟩ (.inl ⟨rfl, rfl⟩) (.inl ⟨rfl, rfl⟩) (.inl ⟨rfl, rfl⟩) (.inl ⟨rfl, rfl⟩) ((f1.later b2).later hA1) (f2.later hA1) hC (.inl ⟨rfl, rfl⟩) ⟨none, 0, rfl, fun h => absurd h (by simp [oneC, atK])⟩ (hrr.later hA1) ⟨rfl, rfl⟩
  have HQ := Lib.hid hq
  have HB := Lib.hid (hB2.trans (hA1.mono hB2.size))
  clear hq hB2 hB1 hB0 hA1 hC f1 f2 b1 b2 H3 h1 h2 hrr hr
  go_wp2_with (fail)
  refine HQ.out.mono ?_
  rintro x w3 ⟨v, rfl, b3, s3⟩
  have hB := HB.out.trans (b3.mono HB.out.size)
  have HS3 := Lib.hid s3
  clear HQ HB b3 s3
  go_wp2
  go_ret
  exact ⟨_, rfl, hB, HS3.out⟩
set_option maxRecDepth 100000 in
theorem checkMail_calls (pA eA : Option Addr) (p e : List ByteArray) (pc ec : Nat) (s : ByteArray) (w : World) (hp : Reads w w.heap.size 1 pA p.length (p.map .string)) (he : Reads w w.heap.size 1 eA e.length (e.map .string)) (pp : PlainL p) (pe : PlainL e) (lp : p.length ≤ 1000000) (le : e.length ≤ 1000000) (hs : FitBox s) (hL : Laid w) :
    Calls Tryz.prog 17 #[.slice pA p.length pc, .slice eA e.length ec, .string s] w fun x w' => x = .returned (.int .i64 (codeB (mailBad p e s))) ∧ Below w.heap.size w w' := by
  obtain ⟨i0, hi0, hz0, hz1, hz2⟩ := info_parts str_info
  have HZ := Lib.hid (fun vp ve (W : World) (hW : Below w.heap.size w W) (hp : SRow W 9 vp (p.map .string)) (he : SRow W 9 ve (e.map .string)) => zzCheckMail_calls p e s vp ve W hp he pp pe lp le hs (hL.keep hW))
  have HP := Lib.hid hp
  have HE := Lib.hid he
  generalize mailBad p e s = R at *
  clear hp he pp pe hs hL
  go_enter Tryz.func17, Tryz.ntmps17
  go_wp2_with (first
    | (at_builtin
       refine wpList_append_any _ rfl _ (.tmp 7) _ rfl w.heap.size 9 i0 _ 1 16 Tryz.underlying22 hi0 hz0 hz1 hz2 rfl (by omega) (.slice none 0 0) 0 [] rfl (nil_own0 _ _ _) w.heap.size pA p.length pc _ rfl HP.out (ones_strings _) (le_max lp) (le_by lp) (Nat.le_refl _) ?_
       intro v1 w1 o1 g1 a1
       have c1 := app_below g1
       have t1 := Lib.hid (app_row o1)
       have hq := Lib.hid (HE.out.below c1)
       have s1 := Lib.hid c1.size
       clear o1 g1 a1)
    | (at_builtin
       refine wpList_append_any _ rfl _ (.tmp 9) _ rfl w.heap.size 9 i0 _ 1 16 Tryz.underlying22 hi0 hz0 hz1 hz2 rfl (by omega) (.slice none 0 0) 0 [] rfl (nil_own0 _ _ _) w.heap.size eA e.length ec _ rfl hq.out (ones_strings _) (le_max le) (le_by le) s1.out ?_
       intro v2 w2 o2 g2 a2
       have c2 := app_below g2
       have t2 := app_row o2
       have hB := c1.trans (c2.mono c1.size)
       have HQ := Lib.hid (HZ.out v1 v2 w2 hB (t1.out.later c2) t2)
       clear o2 g2 a2 hq t1 t2 c1 c2 s1 HZ)
    | fail)
  refine HQ.out.mono ?_
  rintro x w3 ⟨v, rfl, b3, s3⟩
  have hB3 := hB.trans (b3.mono hB.size)
  have hco := Lib.hid (codeOf_b v R w3 s3)
  clear s3 b3 HQ
  go_wp2_with (fail)
  refine hco.out.mono ?_
  rintro x w4 ⟨rfl, rfl⟩
  go_wp2
  go_ret
  exact ⟨rfl, hB3⟩
end Go.Proofs.YtblabjfjhlablaaGreatDoor
