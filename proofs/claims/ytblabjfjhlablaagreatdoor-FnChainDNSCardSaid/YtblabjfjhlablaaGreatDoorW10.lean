/- The walk of codeOf: 0 where a check says nothing, 1 where it says a refusal. -/
import Derived.Test.YtblabjfjhlablaaGreatDoorW8
namespace Go.Proofs.YtblabjfjhlablaaGreatDoor
open Go.RowKit Nc
def endNot : ByteArray := ⟨#[105, 115, 32, 110, 111, 116, 32, 112, 101, 114, 109, 105, 116, 116, 101, 100, 32, 98, 121, 32, 97, 110, 121, 32, 99, 111, 110, 115, 116, 114, 97, 105, 110, 116]⟩
def endEx : ByteArray := ⟨#[105, 115, 32, 101, 120, 99, 108, 117, 100, 101, 100, 32, 98, 121, 32, 97, 32, 99, 111, 110, 115, 116, 114, 97, 105, 110, 116]⟩
def endsWith (s b : ByteArray) : Bool := if b.size ≤ s.size then (s.extract (s.size - b.size) s.size).toList == b.toList else false
set_option maxHeartbeats 1000000 in
theorem ends_calls (s b : ByteArray) (w : World) (hs : s.size ≤ 4611686018427387904) (hb : b.size ≤ 4611686018427387904) :
    Calls Tryz.prog 72 #[.string s, .string b] w fun e w' => e = .returned (.bool (endsWith s b)) ∧ w = w' := by
  by_cases h : b.size ≤ s.size
  · have hR : endsWith s b = ((s.extract (s.size - b.size) s.size).toList == b.toList) := by unfold endsWith; rw [if_pos h]
    rw [hR]
    go_enter Tryz.func72, Tryz.ntmps72
    go_wp2
    go_ret
    exact ⟨rfl, rfl⟩
  · have hR : endsWith s b = false := by unfold endsWith; rw [if_neg h]
    rw [hR]
    go_enter Tryz.func72, Tryz.ntmps72
    go_wp2
    go_ret
    exact ⟨rfl, rfl⟩
theorem extract_tail (a t b : ByteArray) (k : Nat) (ht : t.size = k + b.size) (hb : t.extract k t.size = b) : (a ++ t).extract ((a ++ t).size - b.size) (a ++ t).size = b := by
  have h1 : (a ++ t).size = a.size + t.size := by simp
  rw [h1, show a.size + t.size - b.size = a.size + k by omega, ← hb]
  apply ByteArray.ext
  simp only [ByteArray.data_extract, ByteArray.data_append]
  have e : a.data.size = a.size := rfl
  rw [Array.extract_append, e, show a.size + k - a.size = k by omega, show a.size + t.size - a.size = t.size by omega, Array.extract_eq_empty_of_le (by omega)]
  simp
theorem ends_not (ty : ByteArray) : endsWith (ty ++ tailNot) endNot = true := by
  have h1 : (ty ++ tailNot).size = ty.size + tailNot.size := by simp
  have e1 : tailNot.size = 35 := rfl
  have e2 : endNot.size = 34 := rfl
  unfold endsWith
  rw [if_pos (by omega), extract_tail ty tailNot endNot 1 rfl (by decide)]
  simp
theorem ends_ex (ty : ByteArray) : endsWith (ty ++ tailEx) endEx = true := by
  have h1 : (ty ++ tailEx).size = ty.size + tailEx.size := by simp
  have e1 : tailEx.size = 28 := rfl
  have e2 : endEx.size = 27 := rfl
  unfold endsWith
  rw [if_pos (by omega), extract_tail ty tailEx endEx 1 rfl (by decide)]
  simp
theorem ends_ex_not (ty : ByteArray) : endsWith (ty ++ tailEx) endNot = false := by
  cases hc : endsWith (ty ++ tailEx) endNot with
  | false => rfl
  | true =>
    exfalso
    have h1 : (ty ++ tailEx).size = ty.size + tailEx.size := by simp
    have e1 : tailEx.size = 28 := rfl
    have e2 : endNot.size = 34 := rfl
    unfold endsWith at hc
    by_cases h : endNot.size ≤ (ty ++ tailEx).size
    · rw [if_pos h] at hc
      have hc := beq_iff_eq.1 hc
      rw [ByteArray.toList_eq, ByteArray.toList_eq] at hc
      have h3 := congrArg (fun l : List UInt8 => l[20]?) hc
      simp only [ByteArray.data_extract, ByteArray.data_append] at h3
      have e3 : ty.data.size = ty.size := rfl
      have e4 : tailEx.data.size = 28 := rfl
      rw [Array.getElem?_toList, Array.getElem?_extract] at h3
      rw [if_pos (by simp only [Array.size_append]; omega), Array.getElem?_append_right (by omega)] at h3
      rw [show (ty ++ tailEx).size - endNot.size + 20 - ty.data.size = 14 by omega] at h3
      revert h3
      decide
    · rw [if_neg h] at hc
      cases hc
theorem meth257 (a : Addr) (w : World) : (method 424 207 (.pointer (some a)) "Error").run Tryz.prog w = .ok (257, .pointer (some a)) w := by kernel_rfl
theorem errErr_calls (E : Nat) (t : ByteArray) (w : World) (h : Blk w E 209 #[.string t]) : Calls Tryz.prog 257 #[.pointer (some ⟨E, 0, none⟩)] w fun e w' => e = .returned (.string t) ∧ w = w' := by
  have c0 := h.at_ 0 rfl
  go_enter Tryz.func257, Tryz.ntmps257
  go_wp2
  go_ret
  exact ⟨rfl, rfl⟩
theorem codeOf_nil (w : World) : Calls Tryz.prog 39 #[.nilIface] w fun e w' => e = .returned (.int .i64 0) ∧ w = w' := by
  go_enter Tryz.func39, Tryz.ntmps39
  go_wp2
  go_ret
  exact ⟨rfl, rfl⟩
set_option maxRecDepth 100000 in
set_option maxHeartbeats 1000000 in
theorem codeOf_not (v : Value) (ty : ByteArray) (w : World) (h : IsErr w v (ty ++ tailNot)) (hty : ty.size ≤ 100) : Calls Tryz.prog 39 #[v] w fun e w' => e = .returned (.int .i64 1) ∧ w = w' := by
  obtain ⟨E, rfl, hE⟩ := h
  have hs : (ty ++ tailNot).size ≤ 1000 := by have h1 : (ty ++ tailNot).size = ty.size + tailNot.size := by simp
                                              have e1 : tailNot.size = 35 := rfl
                                              omega
  have he := ends_not ty
  generalize ty ++ tailNot = t at *
  have hm := meth257
  have HE := Lib.hid (errErr_calls E t w hE)
  have H1 := Lib.hid (ends_calls t endNot w (by omega) (by decide))
  rw [he] at H1
  clear he
  go_enter Tryz.func39, Tryz.ntmps39
  go_wp2_with (first
    | (go_at_call 257; refine HE.out.mono ?_; rintro e w' ⟨rfl, rfl⟩)
    | (go_at_call 72; refine H1.out.mono ?_; rintro e w' ⟨rfl, rfl⟩))
  go_ret
  exact ⟨rfl, rfl⟩
set_option maxRecDepth 100000 in
set_option maxHeartbeats 1000000 in
theorem codeOf_ex (v : Value) (ty : ByteArray) (w : World) (h : IsErr w v (ty ++ tailEx)) (hty : ty.size ≤ 100) : Calls Tryz.prog 39 #[v] w fun e w' => e = .returned (.int .i64 1) ∧ w = w' := by
  obtain ⟨E, rfl, hE⟩ := h
  have hs : (ty ++ tailEx).size ≤ 1000 := by have h1 : (ty ++ tailEx).size = ty.size + tailEx.size := by simp
                                             have e1 : tailEx.size = 28 := rfl
                                             omega
  have he := ends_ex_not ty
  have he2 := ends_ex ty
  generalize ty ++ tailEx = t at *
  have hm := meth257
  have HE := Lib.hid (errErr_calls E t w hE)
  have H1 := Lib.hid (ends_calls t endNot w (by omega) (by decide))
  have H2 := Lib.hid (ends_calls t endEx w (by omega) (by decide))
  rw [he] at H1
  rw [he2] at H2
  clear he he2
  go_enter Tryz.func39, Tryz.ntmps39
  go_wp2_with (fail)
  refine HE.out.mono ?_
  rintro e w' ⟨rfl, rfl⟩
  go_wp2_with (fail)
  refine H1.out.mono ?_
  rintro e w' ⟨rfl, rfl⟩
  go_wp2_with (fail)
  refine H2.out.mono ?_
  rintro e w' ⟨rfl, rfl⟩
  go_wp2
  go_ret
  exact ⟨rfl, rfl⟩
/-- The code of an error that a check says: 0 where all is good, 1 where a name is refused. -/
theorem codeOf_calls (v : Value) (bad : Bool) (w : World) (h : (bad = false ∧ v = .nilIface) ∨ (bad = true ∧ IsRefusal w v)) : Calls Tryz.prog 39 #[v] w fun e w' => e = .returned (.int .i64 (if bad then 1 else 0)) ∧ w = w' := by
  rcases h with ⟨rfl, rfl⟩ | ⟨rfl, ty, hty, h | h⟩
  · exact codeOf_nil w
  · exact codeOf_not v ty w h hty
  · exact codeOf_ex v ty w h hty
end Go.Proofs.YtblabjfjhlablaaGreatDoor
