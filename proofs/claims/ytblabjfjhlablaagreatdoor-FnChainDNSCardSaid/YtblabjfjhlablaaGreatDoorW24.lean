/- The walk of alone, of one kind: DNS. -/
import Derived.Test.YtblabjfjhlablaaGreatDoorW23
namespace Go.Proofs.YtblabjfjhlablaaGreatDoor
open Go.RowKit Nc
set_option maxRecDepth 100000 in
theorem alone_calls (p e ss : List ByteArray) (pA eA sA : Option Addr) (pc ec sc : Nat) (w : World) (hL : Laid w)
    (hp : Reads w w.heap.size 1 pA p.length (p.map .string)) (he : Reads w w.heap.size 1 eA e.length (e.map .string)) (hs : Reads w w.heap.size 1 sA ss.length (ss.map .string))
    (pp : PlainL p) (pe : PlainL e) (ps : ∀ s ∈ ss, FitName s) (lp : p.length ≤ 1000000) (le : e.length ≤ 1000000) (ls : ss.length ≤ 1000000) :
    Calls Tryz.prog 14 #[.agg #[.slice pA p.length pc, nilS, nilS, nilS, .slice eA e.length ec, nilS, nilS, nilS, .slice sA ss.length sc, nilS, nilS, nilS], .int .i64 (codeB (dnsBad ⟨[], [], ss⟩ ⟨p, e, []⟩))] w fun x w' => x = .returned (.bool true) ∧ Below w.heap.size w w' := by
  have H1 := Lib.hid (fun W (hW : Below w.heap.size w W) => refusedChain_calls W (hL.keep hW))
  have H2 := Lib.hid (fun (g : Nat) (W : World) (hW : Below w.heap.size w W) hg => dnsTwo_calls p e ss pA eA sA pc ec sc g 2 W (hL.keep hW) hg ((hp.below hW).more hW.size) ((he.below hW).more hW.size) ((hs.below hW).more hW.size) pp pe ps lp le ls)
  generalize dnsBad ⟨[], [], ss⟩ ⟨p, e, []⟩ = R at *
  clear hp he hs pp pe ps lp le ls hL
  unfold nilS
  go_enter Tryz.func14, Tryz.ntmps14
  go_wp2_with (fail)
  have hb1 : Below w.heap.size w (w.alloc (.cells #[.slice pA p.length pc, .slice none 0 0, .slice none 0 0, .slice none 0 0, .slice eA e.length ec, .slice none 0 0, .slice none 0 0, .slice none 0 0, .slice sA ss.length sc, .slice none 0 0, .slice none 0 0, .slice none 0 0] 30)) := (Below.refl _ _).alloc (Nat.le_refl _) _
  have hz1 : (w.alloc (.cells #[.slice pA p.length pc, .slice none 0 0, .slice none 0 0, .slice none 0 0, .slice eA e.length ec, .slice none 0 0, .slice none 0 0, .slice none 0 0, .slice sA ss.length sc, .slice none 0 0, .slice none 0 0, .slice none 0 0] 30)).heap.size = w.heap.size + 1 := Array.size_push _
  generalize w.alloc (.cells #[.slice pA p.length pc, .slice none 0 0, .slice none 0 0, .slice none 0 0, .slice eA e.length ec, .slice none 0 0, .slice none 0 0, .slice none 0 0, .slice sA ss.length sc, .slice none 0 0, .slice none 0 0, .slice none 0 0] 30) = W1 at *
  have hb2 := hb1.alloc hb1.size (.cells #[.slice none 0 0, .slice none 0 0, .slice none 0 0, .slice none 0 0, .slice none 0 0, .slice none 0 0, .slice none 0 0, .slice none 0 0, .slice sA ss.length sc, .slice none 0 0, .slice none 0 0, .slice none 0 0] 30)
  have hz2 : (W1.alloc (.cells #[.slice none 0 0, .slice none 0 0, .slice none 0 0, .slice none 0 0, .slice none 0 0, .slice none 0 0, .slice none 0 0, .slice none 0 0, .slice sA ss.length sc, .slice none 0 0, .slice none 0 0, .slice none 0 0] 30)).heap.size = w.heap.size + 1 + 1 := by rw [← hz1]; exact Array.size_push _
  have hl := Blk.new W1 30 #[.slice none 0 0, .slice none 0 0, .slice none 0 0, .slice none 0 0, .slice none 0 0, .slice none 0 0, .slice none 0 0, .slice none 0 0, .slice sA ss.length sc, .slice none 0 0, .slice none 0 0, .slice none 0 0]
  rw [hz1] at hl
  generalize W1.alloc (.cells #[.slice none 0 0, .slice none 0 0, .slice none 0 0, .slice none 0 0, .slice none 0 0, .slice none 0 0, .slice none 0 0, .slice none 0 0, .slice sA ss.length sc, .slice none 0 0, .slice none 0 0, .slice none 0 0] 30) = W2 at *
  have hb3 := hb2.alloc hb2.size (.cells #[.slice pA p.length pc, .slice none 0 0, .slice none 0 0, .slice none 0 0, .slice eA e.length ec, .slice none 0 0, .slice none 0 0, .slice none 0 0, .slice none 0 0, .slice none 0 0, .slice none 0 0, .slice none 0 0] 30)
  have hl3 := hl.alloc (.cells #[.slice pA p.length pc, .slice none 0 0, .slice none 0 0, .slice none 0 0, .slice eA e.length ec, .slice none 0 0, .slice none 0 0, .slice none 0 0, .slice none 0 0, .slice none 0 0, .slice none 0 0, .slice none 0 0] 30)
  have hr := Blk.new W2 30 #[.slice pA p.length pc, .slice none 0 0, .slice none 0 0, .slice none 0 0, .slice eA e.length ec, .slice none 0 0, .slice none 0 0, .slice none 0 0, .slice none 0 0, .slice none 0 0, .slice none 0 0, .slice none 0 0]
  rw [hz2] at hr
  generalize W2.alloc (.cells #[.slice pA p.length pc, .slice none 0 0, .slice none 0 0, .slice none 0 0, .slice eA e.length ec, .slice none 0 0, .slice none 0 0, .slice none 0 0, .slice none 0 0, .slice none 0 0, .slice none 0 0, .slice none 0 0] 30) = W3 at *
  clear hb1 hb2 hz1 hz2 hl
  refine (H1.out W3 hb3).mono ?_
  rintro x w1 ⟨rfl, b1⟩
  have hl4 := hl3.later b1
  have hr4 := hr.later b1
  have hB := hb3.trans (b1.mono hb3.size)
  clear hb3 hl3 hr b1 H1
  have x0 := hl4.at_ 0 rfl
  have y0 := hr4.at_ 0 rfl
  have x1 := hl4.at_ 1 rfl
  have y1 := hr4.at_ 1 rfl
  have x2 := hl4.at_ 2 rfl
  have y2 := hr4.at_ 2 rfl
  have x3 := hl4.at_ 3 rfl
  have y3 := hr4.at_ 3 rfl
  have x4 := hl4.at_ 4 rfl
  have y4 := hr4.at_ 4 rfl
  have x5 := hl4.at_ 5 rfl
  have y5 := hr4.at_ 5 rfl
  have x6 := hl4.at_ 6 rfl
  have y6 := hr4.at_ 6 rfl
  have x7 := hl4.at_ 7 rfl
  have y7 := hr4.at_ 7 rfl
  have x8 := hl4.at_ 8 rfl
  have y8 := hr4.at_ 8 rfl
  have x9 := hl4.at_ 9 rfl
  have y9 := hr4.at_ 9 rfl
  have x10 := hl4.at_ 10 rfl
  have y10 := hr4.at_ 10 rfl
  have x11 := hl4.at_ 11 rfl
  have y11 := hr4.at_ 11 rfl
  have hg := Blk.new w1 30 (twoCells (.slice pA p.length pc) (.slice eA e.length ec) (.slice sA ss.length sc))
  have hB2 := hB.alloc hB.size (.cells (twoCells (.slice pA p.length pc) (.slice eA e.length ec) (.slice sA ss.length sc)) 30)
  have hq := H2.out w1.heap.size _ hB2 hg
  unfold twoCells nilS at hq hB2
  have HQ := Lib.hid hq
  have HB2 := Lib.hid hB2
  clear hq hB2 hg H2 hl4 hr4 hB
  have hcode : (codeB R == 0) = !R := by cases R <;> rfl
  go_wp2_with (fail)
  refine HQ.out.mono ?_
  rintro x w2 ⟨rfl, b2⟩
  have hB3 := HB2.out.trans (b2.mono HB2.out.size)
  clear HQ HB2 b2
  go_wp2
  go_ret
  exact ⟨by cases R <;> rfl, hB3⟩
end Go.Proofs.YtblabjfjhlablaaGreatDoor
