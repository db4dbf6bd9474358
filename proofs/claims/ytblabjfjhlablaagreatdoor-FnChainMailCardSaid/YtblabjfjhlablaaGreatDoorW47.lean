/- The walk of FnChainMail. -/
import Derived.Test.YtblabjfjhlablaaGreatDoorW46
import Derived.Test.YtblabjfjhlablaaGreatDoorMb
namespace Go.Proofs.YtblabjfjhlablaaGreatDoor
open Go.RowKit Nc
theorem mailAlone_calls (p e : List ByteArray) (s : ByteArray) (pA eA sA : Option Addr) (pc ec sc : Nat) (w : World) (hL : Laid w)
    (hp : Reads w w.heap.size 1 pA p.length (p.map .string)) (he : Reads w w.heap.size 1 eA e.length (e.map .string)) (hs : Reads w w.heap.size 1 sA [s].length ([s].map .string)) (pp : PlainL p) (pe : PlainL e) (hn : FitBox s) (lp : p.length ≤ 1000000) (le : e.length ≤ 1000000) :
    Calls Tryz.prog 14 #[.agg #[.slice none 0 0, .slice pA p.length pc, .slice none 0 0, .slice none 0 0, .slice none 0 0, .slice eA e.length ec, .slice none 0 0, .slice none 0 0, .slice none 0 0, .slice sA 1 sc, .slice none 0 0, .slice none 0 0], .int .i64 (codeB (mailBad p e s))] w fun x w' => x = .returned (.bool true) ∧ Below w.heap.size w w' := by
  have h := oneAlone 1 p e [s] pA eA sA pc ec sc w hL (oneC_ok 1 p e [s] pp pe lp le (by simp) (fun h => absurd h (by decide)) (fun _ x hx => by simp only [List.mem_singleton] at hx; subst hx; exact hn) (fun h => absurd h (by decide))) hp he hs
  rw [oneC_mail] at h
  exact h
set_option maxRecDepth 100000 in
set_option maxHeartbeats 4000000 in
theorem fnChainMail_calls (p e : List ByteArray) (s : ByteArray) (pA eA : Option Addr) (pc ec : Nat) (w : World) (hL : Laid w)
    (hp : Reads w w.heap.size 1 pA p.length (p.map .string)) (he : Reads w w.heap.size 1 eA e.length (e.map .string))
    (sp : ∀ x ∈ p, x.size ≤ 9000000000000000000) (se : ∀ x ∈ e, x.size ≤ 9000000000000000000) (lp : p.length ≤ 9000000000000000000) (le : e.length ≤ 9000000000000000000) (hs : s.size ≤ 9000000000000000000) :
    Calls Tryz.prog 4 #[.slice pA p.length pc, .slice eA e.length ec, .string s] w fun x w' => x = .returned (.bool true) ∧ Below w.heap.size w w' := by
  have F1 := Lib.hid (fits4_calls pA p pc w hp.cellAt lp sp)
  have F2 := Lib.hid (fits4_calls eA e ec w he.cellAt le se)
  have P1 := Lib.hid (fun h1 h2 => plain_calls pA p pc w hp.cellAt h1 h2)
  have P2 := Lib.hid (fun h1 h2 => plain_calls eA e ec w he.cellAt h1 h2)
  have HP := Lib.hid hp
  have HE := Lib.hid he
  have HL := Lib.hid hL
  clear hp he hL sp se
  go_enter Tryz.func4, Tryz.ntmps4
  go_wp2_with (fail)
  refine F1.out.mono ?_
  rintro x w1 ⟨b1, rfl, rfl, f1⟩
  clear F1
  cases b1 with
  | false =>
    clear f1 F2 P1 P2 HP HE HL
    go_wp2
    go_ret
    exact ⟨rfl, Below.refl _ _⟩
  | true =>
  obtain ⟨lp1, sp1⟩ := f1 rfl
  have SP1 := Lib.hid sp1
  clear f1 sp1
  go_wp2_with (fail)
  refine F2.out.mono ?_
  rintro x w1 ⟨b2, rfl, rfl, f2⟩
  clear F2
  cases b2 with
  | false =>
    clear f2 P1 P2 HP HE HL
    go_wp2
    go_ret
    exact ⟨rfl, Below.refl _ _⟩
  | true =>
  obtain ⟨le1, se1⟩ := f2 rfl
  have SE1 := Lib.hid se1
  clear f2 se1
  by_cases h0 : s.size ≤ 2147483647
  case neg =>
    clear P1 P2 HP HE HL
    go_wp2
    go_ret
    exact ⟨rfl, Below.refl _ _⟩
  by_cases h1 : p.length ≤ 20
  case neg =>
    clear P1 P2 HP HE HL
    go_wp2
    go_ret
    exact ⟨rfl, Below.refl _ _⟩
  by_cases h2 : e.length ≤ 20
  case neg =>
    clear P1 P2 HP HE HL
    go_wp2
    go_ret
    exact ⟨rfl, Below.refl _ _⟩
  have Q1 := Lib.hid (P1.out (by omega) SP1.out)
  have Q2 := Lib.hid (P2.out (by omega) SE1.out)
  clear P1 P2 SP1 SE1
  cases hpl : p.all plainS with
  | false =>
    rw [hpl] at Q1
    clear Q2 HP HE HL hpl
    go_wp2_with (fail)
    refine Q1.out.mono ?_
    rintro x w1 ⟨rfl, rfl⟩
    go_wp2
    go_ret
    exact ⟨rfl, Below.refl _ _⟩
  | true =>
  have PP := Lib.hid (plain_ok p hpl)
  rw [hpl] at Q1
  clear hpl
  go_wp2_with (fail)
  refine Q1.out.mono ?_
  rintro x w1 ⟨rfl, rfl⟩
  clear Q1
  cases hel : e.all plainS with
  | false =>
    rw [hel] at Q2
    clear HP HE HL hel
    go_wp2_with (fail)
    refine Q2.out.mono ?_
    rintro x w1 ⟨rfl, rfl⟩
    go_wp2
    go_ret
    exact ⟨rfl, Below.refl _ _⟩
  | true =>
  have PE := Lib.hid (plain_ok e hel)
  rw [hel] at Q2
  clear hel
  go_wp2_with (fail)
  refine Q2.out.mono ?_
  rintro x w1 ⟨rfl, rfl⟩
  clear Q2
  by_cases h3 : s.size ≤ 300
  case neg =>
    clear HP HE HL PP PE
    go_wp2
    go_ret
    exact ⟨rfl, Below.refl _ _⟩
  have N1 := Lib.hid (mailboxOk_calls s w (by omega))
  cases hn : boxB s with
  | false =>
    rw [hn] at N1
    clear HP HE HL PP PE hn
    go_wp2_with (fail)
    refine N1.out.mono ?_
    rintro x w1 ⟨rfl, hb⟩
    go_wp2
    go_ret
    exact ⟨rfl, hb⟩
  | true =>
  have FN := Lib.hid (boxB_fit s hn)
  rw [hn] at N1
  clear hn
  go_wp2_with (fail)
  refine N1.out.mono ?_
  rintro x w1 ⟨rfl, hb⟩
  clear N1
  go_wp2_with (fail)
  have hb1 := hb.alloc hb.size (.cells #[.string s] 9)
  have hz1 : (w1.alloc (.cells #[.string s] 9)).heap.size = w1.heap.size + 1 := Array.size_push _
  have hs1 := Blk.new w1 9 #[.string s]
  generalize w1.alloc (.cells #[.string s] 9) = W1 at *
  have hb2 := hb1.alloc hb1.size (.cells #[.slice none 0 0, .slice pA p.length pc, .slice none 0 0, .slice none 0 0, .slice none 0 0, .slice eA e.length ec, .slice none 0 0, .slice none 0 0, .slice none 0 0, .slice (some ⟨w1.heap.size, 0, none⟩) 1 1, .slice none 0 0, .slice none 0 0] 30)
  have hs2 := hs1.alloc (.cells #[.slice none 0 0, .slice pA p.length pc, .slice none 0 0, .slice none 0 0, .slice none 0 0, .slice eA e.length ec, .slice none 0 0, .slice none 0 0, .slice none 0 0, .slice (some ⟨w1.heap.size, 0, none⟩) 1 1, .slice none 0 0, .slice none 0 0] 30)
  have hc := Blk.new W1 30 #[.slice none 0 0, .slice pA p.length pc, .slice none 0 0, .slice none 0 0, .slice none 0 0, .slice eA e.length ec, .slice none 0 0, .slice none 0 0, .slice none 0 0, .slice (some ⟨w1.heap.size, 0, none⟩) 1 1, .slice none 0 0, .slice none 0 0]
  rw [hz1] at hc
  generalize W1.alloc (.cells #[.slice none 0 0, .slice pA p.length pc, .slice none 0 0, .slice none 0 0, .slice none 0 0, .slice eA e.length ec, .slice none 0 0, .slice none 0 0, .slice none 0 0, .slice (some ⟨w1.heap.size, 0, none⟩) 1 1, .slice none 0 0, .slice none 0 0] 30) = W2 at *
  have K1 := Lib.hid (fun (W : World) (hW : Below w.heap.size w W) => checkMail_calls pA eA p e pc ec s W ((HP.out.below hW).more hW.size) ((HE.out.below hW).more hW.size) PP.out PE.out (by omega) (by omega) FN.out (HL.out.keep hW))
  have K2 := fun (W : World) (hW : Below w.heap.size w W) (hS : Blk W w1.heap.size 9 #[.string s]) => mailAlone_calls p e s pA eA (some ⟨w1.heap.size, 0, none⟩) pc ec 1 W (HL.out.keep hW) ((HP.out.below hW).more hW.size) ((HE.out.below hW).more hW.size)
    ⟨rfl, fun _ => ⟨_, rfl, hS.lt, fun j u hu => by
      cases j with
      | zero => simp only [List.map_cons, List.getElem?_cons_zero, Option.some.injEq] at hu; subst hu; exact hS.at_ 0 rfl
      | succ j => simp at hu⟩⟩ PP.out PE.out FN.out (by omega) (by omega)
  have KK := Lib.hid K2
  clear K2 hz1 hs1 hb1 hb HP HE HL PP PE FN
  generalize mailBad p e s = R at *
  go_region_held3 (fun W => W.cell? ⟨w1.heap.size + 1, 0, none⟩ = some (.slice none 0 0) ∧ W.cell? ⟨w1.heap.size + 1, 1, none⟩ = some (.slice pA p.length pc) ∧ W.cell? ⟨w1.heap.size + 1, 2, none⟩ = some (.slice none 0 0) ∧ W.cell? ⟨w1.heap.size + 1, 3, none⟩ = some (.slice none 0 0) ∧ W.cell? ⟨w1.heap.size + 1, 4, none⟩ = some (.slice none 0 0) ∧ W.cell? ⟨w1.heap.size + 1, 5, none⟩ = some (.slice eA e.length ec) ∧ W.cell? ⟨w1.heap.size + 1, 6, none⟩ = some (.slice none 0 0) ∧ W.cell? ⟨w1.heap.size + 1, 7, none⟩ = some (.slice none 0 0) ∧ W.cell? ⟨w1.heap.size + 1, 8, none⟩ = some (.slice none 0 0) ∧ W.cell? ⟨w1.heap.size + 1, 9, none⟩ = some (.slice (some ⟨w1.heap.size, 0, none⟩) 1 1) ∧ W.cell? ⟨w1.heap.size + 1, 10, none⟩ = some (.slice none 0 0) ∧ W.cell? ⟨w1.heap.size + 1, 11, none⟩ = some (.slice none 0 0))
    (first | exact cells12' hc.drew | exact cells12' d1 | exact cells12' d2)
    (first
      | (go_at_call 17; (with_reducible refine (K1.out _ hb2.drew).mono ?_); rintro x u1 ⟨rfl, q1⟩; have d1 := hc.drew.later q1; have e1 := hs2.drew.later q1; have f1 := hb2.drew.trans (q1.mono hb2.drew.size))
      | (go_at_call 14; (with_reducible refine (KK.out _ f1 e1).mono ?_); rintro x u2 ⟨rfl, q2⟩; have d2 := d1.later q2; have f2 := f1.trans (q2.mono f1.size)))
  go_wp2
  go_ret
  exact ⟨rfl, f2⟩
end Go.Proofs.YtblabjfjhlablaaGreatDoor
