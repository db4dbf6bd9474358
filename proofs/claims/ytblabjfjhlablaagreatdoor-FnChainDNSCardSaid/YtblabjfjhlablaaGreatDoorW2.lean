/- The walk of dnsHasSuffix: it returns whether a constraint is a name, or the name has labels more ahead of it. -/
import Derived.Test.YtblabjfjhlablaaGreatDoorW1
import Derived.Deep.QuietTactic
import Derived.BigQuiet
import Derived.IntWalk
namespace Go.Proofs.YtblabjfjhlablaaGreatDoor
open Go.RowKit Nc
/-- A constraint is the name, or it with labels more ahead. -/
def sufB (a b : ByteArray) : Bool := sufK a.data.toList.reverse b.data.toList.reverse
theorem preC_cons (x y : UInt8) (xs ys : List UInt8) : preC (x :: xs) (y :: ys) = (low x == low y && preC xs ys) := rfl
theorem low_less (x y : UInt8) (h : x.toNat < y.toNat) : (low x == low y) = decide (65 ≤ x.toNat ∧ x.toNat ≤ 90 ∧ y.toNat = x.toNat + 32) := by
  have lw : ∀ z : UInt8, (low z).toNat = lowN z.toNat := forall_u8 _ (by decide +kernel)
  have e : (low x = low y) ↔ lowN x.toNat = lowN y.toNat := by rw [← lw, ← lw, UInt8.toNat_inj]
  have hb := y.toNat_lt
  rw [Bool.eq_iff_iff]
  simp only [beq_iff_eq, decide_eq_true_eq, e]
  unfold lowN
  split <;> split <;> omega
theorem sufB_short (a b : ByteArray) (h : b.size < a.size) : sufB a b = false := by
  cases hc : sufB a b with
  | false => rfl
  | true =>
    have := preC_len _ _ (sufK_iff.1 hc).1
    simp at this
    omega
theorem sufB_pre (a b : ByteArray) (h : preC (revTo a a.size) (revTo b b.size) = false) : sufB a b = false := by
  rw [revTo_all, revTo_all] at h
  simp [sufB, sufK, h]
theorem last_rev (a : ByteArray) (h : 0 < a.size) : a.data.toList.reverse.getLast? = some a[0] := by
  rw [List.getLast?_reverse, List.head?_eq_getElem?, List.getElem?_eq_getElem (by simpa using h)]; rfl
theorem at_rev (b : ByteArray) (k : Nat) (h : k < b.size) : b.data.toList.reverse[k]? = some b[b.size - 1 - k] := by
  rw [List.getElem?_reverse (by simpa using h), List.getElem?_eq_getElem (by simp; omega)]; rfl
theorem sufB_end (a b : ByteArray) (ha : 0 < a.size) (_hl : a.size ≤ b.size) (h : preC (revTo a a.size) (revTo b b.size) = true) :
    sufB a b = (decide (a[0].toNat = 46) || decide (a.size = b.size) || (if h : a.size < b.size then decide (b[b.size - a.size - 1].toNat = 46) else false)) := by
  rw [revTo_all, revTo_all] at h
  have e46 : ∀ x : UInt8, (some x == some (46 : UInt8)) = decide (x.toNat = 46) := fun x => by
    rw [Bool.eq_iff_iff]; simp only [beq_iff_eq, Option.some.injEq, decide_eq_true_eq]; rw [← UInt8.toNat_inj]; rfl
  simp only [sufB, sufK, h, Bool.true_and, last_rev a ha, e46]
  simp only [List.length_reverse, Array.length_toList]
  by_cases hlt : a.size < b.size
  · rw [dif_pos hlt, show a.data.size = a.size from rfl, at_rev b a.size hlt, e46]
    have ee : b.size - 1 - a.size = b.size - a.size - 1 := by omega
    simp only [ee]; rfl
  · rw [dif_neg hlt, List.getElem?_eq_none (by simp; exact Nat.not_lt.1 hlt)]; rfl
attribute [irreducible] sufB
set_option maxRecDepth 100000 in
set_option maxHeartbeats 1000000 in
theorem dnsHasSuffix_calls (a b : ByteArray) (w : World) (h0 : 0 < a.size) (ha : a.size ≤ 4611686018427387904) (hb : b.size ≤ 4611686018427387904) :
    Calls Tryz.prog 103 #[.string a, .string b] w fun e w' => e = .returned (.bool (sufB a b)) ∧ ∃ n, w.drewN n = w' := by
  by_cases hs : b.size < a.size
  · rw [sufB_short a b hs]
    go_enter Tryz.func103, Tryz.ntmps103
    go_wp2
    go_ret
    exact ⟨rfl, 0, rfl⟩
  · have hs' : a.size ≤ b.size := by omega
    have E1 := Lib.hid (sufB_pre a b)
    have E2 := Lib.hid (sufB_end a b h0 hs')
    generalize sufB a b = R at E1 E2 ⊢
    go_enter Tryz.func103, Tryz.ntmps103
    go_wp2
    obtain ⟨d, hd⟩ : ∃ d : Nat, d + a.size = b.size := ⟨b.size - a.size, by omega⟩
    have hd' : (a.size : Int) - (b.size : Int) = -(d : Int) := by omega
    rw [hd']
    clear hd'
    have hD := Lib.hid hd
    have hd1 : d + a.size ≤ b.size := by omega
    clear hd
    go_loopw [7] (fun i wr => ∃ x : Int, -1 ≤ x ∧ x < a.size ∧ i = .int .i64 x ∧ (∃ n, w.drewN n = wr) ∧ Hid (preC (revTo a (x + 1).toNat) (revTo b (x + 1 + b.size - a.size).toNat) = preC (revTo a a.size) (revTo b b.size))) (fun i _ => (intOf i + 1).toNat)
    case atStart => exact ⟨_, by omega, by omega, rfl, ⟨0, rfl⟩, by rw [show ((a.size : Int) - 1 + 1).toNat = a.size by omega, show ((a.size : Int) - 1 + 1 + b.size - a.size).toNat = b.size by omega]; exact rfl⟩
    case round =>
      obtain ⟨x, hx1, hx2, rfl, ⟨n, rfl⟩, hR⟩ := hrel
      by_cases hx : 0 ≤ x
      · obtain ⟨i, rfl⟩ := Int.eq_ofNat_of_zero_le hx
        have hi' : i < a.size := by omega
        have hj' : i + d < b.size := by omega
        go_wp2
        have w1 : IntKind.i64.wrap ((i : Int) + d) = (i : Int) + d := IntWalk.i64_in _ (by omega)
        have w2 : 0 ≤ (i : Int) + d := by omega
        have w3 : ((i : Int) + d).toNat = i + d := by omega
        have w4 : (i : Int) + d < b.size := by omega
        go_quiet (fail)
        clear w1
        have hrow := hR.out
        rw [show ((i : Int) + 1).toNat = i + 1 by omega, show ((i : Int) + 1 + b.size - a.size).toNat = i + d + 1 by have := hD.out; omega, revTo_succ a i hi', revTo_succ b (i + d) hj', preC_cons] at hrow
        have hend : ∀ k : Int, k = (i : Int) - 1 → (k + 1).toNat = i ∧ (k + 1 + b.size - a.size).toNat = i + d := fun k hk => by have := hD.out; omega
        have HE := Lib.hid hend
        clear hend hR
        generalize a[i] = p at *
        generalize b[i + d] = q at *
        by_cases hpq : p.toNat = q.toNat
        · have hpq' : p = q := UInt8.toNat_inj.1 hpq
          subst hpq'
          have hR2 := Lib.hid hrow
          clear hrow hpq
          go_wp2
          go_roundw
          case rel => exact ⟨_, by omega, by omega, rfl, ⟨_, rfl⟩, by rw [(HE.out _ rfl).1, (HE.out _ rfl).2]; have h := hR2.out; simp only [beq_self_eq_true, Bool.true_and] at h; exact h⟩
          case measure => simp only [intOf]; omega
        · have hb1 : ((p.toNat : Int) == (q.toNat : Int)) = false := by simp; omega
          have u1 := p.toNat_lt
          have u2 := q.toNat_lt
          by_cases hlt : q.toNat < p.toNat
          · have hl : (low p == low q) = decide (65 ≤ q.toNat ∧ q.toNat ≤ 90 ∧ p.toNat = q.toNat + 32) := by rw [Bool.beq_comm]; exact low_less q p hlt
            rw [hl] at hrow
            have hR2 := Lib.hid hrow
            clear hrow hl hpq
            by_cases c1 : 65 ≤ q.toNat
            · by_cases c2 : q.toNat ≤ 90
              · by_cases c3 : p.toNat = q.toNat + 32
                · have hR3 : Hid (preC (revTo a i) (revTo b (i + d)) = preC (revTo a a.size) (revTo b b.size)) := by
                    have h := hR2.out
                    simp only [c1, c2, c3, true_and, decide_true, Bool.true_and] at h
                    exact h
                  clear hR2
                  go_wp2
                  go_roundw
                  case rel => exact ⟨_, by omega, by omega, rfl, ⟨_, rfl⟩, by rw [(HE.out _ rfl).1, (HE.out _ rfl).2]; exact hR3⟩
                  case measure => simp only [intOf]; omega
                · have hb2 : ((p.toNat : Int) == (q.toNat : Int) + 32) = false := by simp; omega
                  have e0 : preC (revTo a a.size) (revTo b b.size) = false := by rw [← hR2.out]; simp; omega
                  obtain rfl := E1.out e0
                  clear e0
                  go_wp2
                  go_ret
                  exact ⟨rfl, _, rfl⟩
              · have e0 : preC (revTo a a.size) (revTo b b.size) = false := by rw [← hR2.out]; simp; omega
                obtain rfl := E1.out e0
                clear e0
                go_wp2
                go_ret
                exact ⟨rfl, _, rfl⟩
            · have e0 : preC (revTo a a.size) (revTo b b.size) = false := by rw [← hR2.out]; simp; omega
              obtain rfl := E1.out e0
              clear e0
              go_wp2
              go_ret
              exact ⟨rfl, _, rfl⟩
          · have hl : (low p == low q) = decide (65 ≤ p.toNat ∧ p.toNat ≤ 90 ∧ q.toNat = p.toNat + 32) := low_less p q (by omega)
            rw [hl] at hrow
            have hR2 := Lib.hid hrow
            clear hrow hl hpq
            by_cases c1 : 65 ≤ p.toNat
            · by_cases c2 : p.toNat ≤ 90
              · by_cases c3 : q.toNat = p.toNat + 32
                · have hR3 : Hid (preC (revTo a i) (revTo b (i + d)) = preC (revTo a a.size) (revTo b b.size)) := by
                    have h := hR2.out
                    simp only [c1, c2, c3, true_and, decide_true, Bool.true_and] at h
                    exact h
                  clear hR2
                  go_wp2
                  go_roundw
                  case rel => exact ⟨_, by omega, by omega, rfl, ⟨_, rfl⟩, by rw [(HE.out _ rfl).1, (HE.out _ rfl).2]; exact hR3⟩
                  case measure => simp only [intOf]; omega
                · have hb2 : ((q.toNat : Int) == (p.toNat : Int) + 32) = false := by simp; omega
                  have e0 : preC (revTo a a.size) (revTo b b.size) = false := by rw [← hR2.out]; simp; omega
                  obtain rfl := E1.out e0
                  clear e0
                  go_wp2
                  go_ret
                  exact ⟨rfl, _, rfl⟩
              · have e0 : preC (revTo a a.size) (revTo b b.size) = false := by rw [← hR2.out]; simp; omega
                obtain rfl := E1.out e0
                clear e0
                go_wp2
                go_ret
                exact ⟨rfl, _, rfl⟩
            · have e0 : preC (revTo a a.size) (revTo b b.size) = false := by rw [← hR2.out]; simp; omega
              obtain rfl := E1.out e0
              clear e0
              go_wp2
              go_ret
              exact ⟨rfl, _, rfl⟩
      · obtain rfl : x = -1 := by omega
        have hb0 : preC (revTo a a.size) (revTo b b.size) = true := by
          rw [← hR.out, show ((-1 : Int) + 1).toNat = 0 by omega, revTo_zero]; rfl
        have hE := E2.out hb0
        clear hb0 hR hx
        by_cases c1 : a[0].toNat = 46
        · simp only [c1, decide_true, Bool.true_or] at hE
          subst hE
          have c1' : ((a[0].toNat : Int) != 46) = false := by simp [c1]
          clear c1
          go_wp2
          go_ret
          exact ⟨rfl, _, rfl⟩
        · have c1' : ((a[0].toNat : Int) != 46) = true := by simp; omega
          by_cases c2 : a.size < b.size
          · have hne : ¬ a.size = b.size := by omega
            simp only [c1, hne, decide_false, Bool.false_or, c2, dif_pos] at hE
            have hk : b.size - a.size - 1 < b.size := by omega
            clear hne
            by_cases c3 : b[b.size - a.size - 1].toNat = 46
            · have c3' : ((b[b.size - a.size - 1].toNat : Int) != 46) = false := by simp [c3]
              simp only [c3, decide_true] at hE
              subst hE
              clear c3 c1
              go_wp2
              go_ret
              exact ⟨rfl, _, rfl⟩
            · have c3' : ((b[b.size - a.size - 1].toNat : Int) != 46) = true := by simp; omega
              simp only [c3, decide_false] at hE
              subst hE
              clear c3 c1
              go_wp2
              go_ret
              exact ⟨rfl, _, rfl⟩
          · have hne : a.size = b.size := by omega
            simp only [hne, decide_true, Bool.or_true, Bool.true_or] at hE
            subst hE
            clear hne c1
            go_wp2
            go_ret
            exact ⟨rfl, _, rfl⟩
end Go.Proofs.YtblabjfjhlablaaGreatDoor
