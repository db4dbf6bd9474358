/- The walk of dnsCompare: it returns how two names compare from behind. -/
import Derived.Test.YtblabjfjhlablaaGreatDoorWk
import Derived.Test.YtblabjfjhlablaaGreatDoorNc
namespace Go.Proofs.YtblabjfjhlablaaGreatDoor
open Go.RowKit Nc
/-- the bytes of a text up to a place, the last first -/
def revTo (a : ByteArray) (i : Nat) : List UInt8 := (a.data.toList.take i).reverse
theorem revTo_succ (a : ByteArray) (i : Nat) (h : i < a.size) : revTo a (i + 1) = a[i] :: revTo a i := by
  unfold revTo
  rw [List.take_succ_eq_append_getElem (by simpa using h), List.reverse_append]; rfl
theorem revTo_zero (a : ByteArray) : revTo a 0 = [] := rfl
theorem revTo_all (a : ByteArray) : revTo a a.size = a.data.toList.reverse := by
  unfold revTo
  rw [List.take_of_length_le (by simp)]
def tbN (j : Nat) : Nat := if j = 46 then 0 else lowN j
theorem tb_toNat : ∀ x : UInt8, (tb x).toNat = tbN x.toNat := forall_u8 _ (by decide +kernel)
theorem tbN_lt (x : UInt8) : tbN x.toNat < 256 := by rw [← tb_toNat]; exact (tb x).toNat_lt
attribute [irreducible] tbN
theorem tab_at (x : UInt8) : tabDone[x.toNat]? = some (.int .u8 (tbN x.toNat : Nat)) := by
  rw [tabDone_get _ x.toNat_lt]; unfold tbN; rfl
theorem info193 : (Tryz.prog.info? 193).map (·.size) = some 256 := by kernel_rfl
set_option maxRecDepth 100000 in
set_option maxHeartbeats 400000 in
theorem dnsCompare_calls (a b : ByteArray) (w : World) (ha : a.size ≤ 4611686018427387904) (hb : b.size ≤ 4611686018427387904) :
    Calls Tryz.prog 102 #[.string a, .string b] w fun e w' => e = .returned (.int .i64 (cmpK a.data.toList.reverse b.data.toList.reverse)) ∧ (w.alloc (.cells tabDone 193)).alloc (.cells tabDone 193) = w' := by
  have HR : Hid (cmpK (revTo a a.size) (revTo b b.size) = cmpK a.data.toList.reverse b.data.toList.reverse) := by rw [revTo_all, revTo_all]; exact rfl
  generalize cmpK a.data.toList.reverse b.data.toList.reverse = R at HR ⊢
  go_enter Tryz.func102, Tryz.ntmps102
  have hi := info193
  have HI := Lib.hid hi
  clear hi
  have hall : (tabDone).all (·.oneCell') = true := Array.all_eq_true_iff_forall_mem.2 tabDone_one
  have hc : ∀ (x : UInt8), ((w.alloc (.cells tabDone 193)).alloc (.cells tabDone 193)).cell? ⟨w.heap.size + 1, x.toNat, none⟩ = some (.int .u8 (tbN x.toNat : Nat)) := fun x => by
    rw [show w.heap.size + 1 = (w.alloc (.cells tabDone 193)).heap.size by simp]
    exact (World.cell?_alloc_new (w.alloc (.cells tabDone 193)) _ _ _).trans (tab_at x)
  have HC := Lib.hid hc
  clear hc
  go_wp2_with (first
    | (go_at_call 138; refine (t138 _).mono ?_; rintro e w' ⟨rfl, rfl⟩)
    | (with_reducible refine wpList_store_new (op := ⟨none, .store 193 (.tmp 5) (.tmp 12), _, _, _, _⟩) ?g1 193 (.tmp 5) (.tmp 12) ?g2 (w.alloc (.cells tabDone 193)) Tryz.zeroCells193 193 (w.heap.size + 1) ?g3 tabDone ?g4 ?g5 ?g6 ?g7 ?g8 ?_))
  case g1 => rfl
  case g2 => rfl
  case g3 => simp
  case g4 => rfl
  case g5 => rfl
  case g6 => rw [tabDone_size]; rfl
  case g7 => rw [tabDone_size]; exact HI.out
  case g8 => exact hall
  go_loop [6, 7] (fun i j => ∃ x y : Int, -1 ≤ x ∧ x < a.size ∧ -1 ≤ y ∧ y < b.size ∧ i = .int .i64 x ∧ j = .int .i64 y ∧ Hid (cmpK (revTo a (x + 1).toNat) (revTo b (y + 1).toNat) = R)) (fun i _ => (intOf i + 1).toNat)
  case atStart => exact ⟨_, _, by omega, by omega, by omega, by omega, rfl, rfl, by simpa using HR⟩
  case round =>
    obtain ⟨x, y, hx1, hx2, hy1, hy2, rfl, rfl, hR⟩ := hrel
    by_cases hx : 0 ≤ x
    · obtain ⟨i, rfl⟩ := Int.eq_ofNat_of_zero_le hx
      by_cases hy : 0 ≤ y
      · obtain ⟨j, rfl⟩ := Int.eq_ofNat_of_zero_le hy
        have hi' : i < a.size := by omega
        have hj' : j < b.size := by omega
        have b1 : (a[i].toNat : Int) < 256 := by have := a[i].toNat_lt; omega
        have b2 : (b[j].toNat : Int) < 256 := by have := b[j].toNat_lt; omega
        have c1 := HC.out a[i]
        have c2 := HC.out b[j]
        have r1 := revTo_succ a i hi'
        have r2 := revTo_succ b j hj'
        rw [show ((i : Int) + 1).toNat = i + 1 by omega, show ((j : Int) + 1).toNat = j + 1 by omega, r1, r2] at hR
        clear r1 r2
        have t1 := tb_toNat a[i]
        have t2 := tb_toNat b[j]
        have T1 := Lib.hid t1
        have T2 := Lib.hid t2
        clear t1 t2
        by_cases he : tbN a[i].toNat = tbN b[j].toNat
        · have hR2 : Hid (cmpK (revTo a i) (revTo b j) = R) := by
            have h := hR.out
            rw [cmpK, if_pos (UInt8.toNat_inj.1 (by rw [T1.out, T2.out, he]))] at h
            exact h
          have hb1 : ((tbN a[i].toNat : Int) == (tbN b[j].toNat : Int)) = true := by simp [he]
          have HE := Lib.hid he
          clear he hR
          go_wp2
          go_round
          case rel => exact ⟨i - 1, j - 1, by omega, by omega, by omega, by omega, rfl, rfl, by rw [show ((i : Int) - 1 + 1).toNat = i by omega, show ((j : Int) - 1 + 1).toNat = j by omega]; exact hR2⟩
          case measure => simp only [intOf]; omega
        · have hne : tb a[i] ≠ tb b[j] := fun h => he (by rw [← T1.out, ← T2.out, h])
          have hb1 : ((tbN a[i].toNat : Int) == (tbN b[j].toNat : Int)) = false := by simp; omega
          have hR2 := hR.out
          rw [cmpK, if_neg hne] at hR2
          clear hR
          by_cases hl : tbN a[i].toNat < tbN b[j].toNat
          · rw [if_pos (UInt8.lt_iff_toNat_lt.2 (by rw [T1.out, T2.out]; exact hl))] at hR2
            subst hR2
            clear hne he
            go_wp2
            go_ret
            exact ⟨rfl, rfl⟩
          · rw [if_neg (fun h => hl (by have := UInt8.lt_iff_toNat_lt.1 h; rwa [T1.out, T2.out] at this))] at hR2
            subst hR2
            clear hne he
            go_wp2
            go_ret
            exact ⟨rfl, rfl⟩
      · obtain rfl : y = -1 := by omega
        have hR2 := hR.out
        rw [show ((-1 : Int) + 1).toNat = 0 by omega, show ((i : Int) + 1).toNat = i + 1 by omega, revTo_zero, revTo_succ a i (by omega)] at hR2
        simp only [cmpK] at hR2
        subst hR2
        clear hR hy
        have hl : ¬ (i : Int) < -1 := by omega
        go_wp2
        go_ret
        exact ⟨rfl, rfl⟩
    · obtain rfl : x = -1 := by omega
      have hR2 := hR.out
      rw [show ((-1 : Int) + 1).toNat = 0 by omega, revTo_zero] at hR2
      clear hR hx
      by_cases hy : y = -1
      · subst hy
        rw [show ((-1 : Int) + 1).toNat = 0 by omega, revTo_zero] at hR2
        simp only [cmpK] at hR2
        subst hR2
        go_wp2
        go_ret
        exact ⟨rfl, rfl⟩
      · obtain ⟨j, rfl⟩ : ∃ j : Nat, y = j := ⟨y.toNat, by omega⟩
        rw [show ((j : Int) + 1).toNat = j + 1 by omega, revTo_succ b j (by omega)] at hR2
        simp only [cmpK] at hR2
        subst hR2
        clear hy
        have hl : (-1 : Int) < j := by omega
        go_wp2
        go_ret
        exact ⟨rfl, rfl⟩
end Go.Proofs.YtblabjfjhlablaaGreatDoor
