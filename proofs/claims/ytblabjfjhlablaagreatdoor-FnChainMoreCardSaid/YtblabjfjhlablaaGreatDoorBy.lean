/- Bytes in memory, and bytes.Compare. -/
import Derived.Test.YtblabjfjhlablaaGreatDoorWr
import Derived.Test.YtblabjfjhlablaaGreatDoorIp
import Derived.Lib.BytesEntry
namespace Go.Proofs.YtblabjfjhlablaaGreatDoor
open Go.RowKit Nc
def b8 (b : UInt8) : Value := .int .u8 (b.toNat : Int)
/-- Cells that hold bytes. -/
def Byt (w : World) (A : Option Addr) (l : List UInt8) : Prop := Reads w w.heap.size 1 A l.length (l.map b8)
theorem Byt.later {w w' : World} {A : Option Addr} {l : List UInt8} (h : Byt w A l) (hb : Below w.heap.size w w') : Byt w' A l := (Reads.below h hb).more hb.size
theorem Byt.at_ {w : World} {A : Option Addr} {l : List UInt8} (h : Byt w A l) (k : Nat) (hk : k < l.length) : ∃ ad, A = some ad ∧ w.cell? (ad.add k) = some (.int .u8 (l[k].toNat : Int)) := by
  obtain ⟨ad, e, _, hc⟩ := h.2 (by omega)
  exact ⟨ad, e, hc k _ (by simp [hk, b8])⟩
theorem bytes_back (l : List UInt8) : Lib.bytesOf (l.map fun b => (b.toNat : Int)) = l := by
  unfold Lib.bytesOf
  rw [List.map_map]
  conv => rhs; rw [← List.map_id l]
  refine List.map_congr_left fun b _ => ?_
  simp
theorem run_bytes {P : Program} {w : World} {A : Option Addr} {l : List UInt8} (h : Byt w A l) (c : Nat) : (Extern.Bytes.bytesOf (.slice A l.length c)).run P w = .ok ⟨l.toArray⟩ w := by
  rcases A with _ | ad
  · have h0 : l.length = 0 := by
      rcases Nat.eq_zero_or_pos l.length with h0 | h0
      · exact h0
      · obtain ⟨ad, e, _⟩ := h.at_ 0 h0; cases e
    have : l = [] := List.eq_nil_of_length_eq_zero h0
    subst this
    rfl
  · have hl := Lib.run_loadBytesX (P := P) w (l.map fun b => (b.toNat : Int)) ad .empty (fun j x hj => by
      rw [List.getElem?_map, Option.map_eq_some_iff] at hj
      obtain ⟨b, hb, rfl⟩ := hj
      have hjl := (List.getElem?_eq_some_iff.1 hb).1
      obtain ⟨ad', e, hc⟩ := h.at_ j hjl
      cases e
      rw [List.getElem?_eq_getElem hjl] at hb
      rw [hc, Option.some.inj hb])
    rw [List.length_map, bytes_back] at hl
    show (Extern.Bytes.loadBytes ad l.length .empty).run P w = _
    rw [hl]
    congr 1
    apply ByteArray.ext
    have he0 : ByteArray.empty.data = #[] := rfl
    rw [he0]
    simp
theorem cmpL_lib : ∀ a b : List UInt8, cmpL a b = Lib.compareBytes a b
  | [], [] => rfl
  | [], _ :: _ => rfl
  | _ :: _, [] => rfl
  | x :: xs, y :: ys => by
    unfold cmpL Lib.compareBytes
    by_cases h : x = y
    · subst h
      have : ¬ x < x := by rw [UInt8.lt_iff_toNat_lt]; omega
      rw [if_pos rfl, if_neg this, if_neg this]
      exact cmpL_lib xs ys
    · rw [if_neg h]
      by_cases h2 : x < y
      · rw [if_pos h2, if_pos h2]
      · rw [if_neg h2, if_neg h2, if_pos (lt_of_ne h h2)]
theorem run_compare {w : World} {A B : Option Addr} {a b : List UInt8} (ha : Byt w A a) (hb : Byt w B b) (c d : Nat) :
    (callFunc 181 #[.slice A a.length c, .slice B b.length d]).run Tryz.prog w = .ok (.value (.int .i64 (cmpL a b))) w := by
  rw [run_callFunc_extern (e := Extern.BytealgCompare.compare) Tryz.func181 (by kernel_rfl) (by kernel_rfl) (by kernel_rfl) (by kernel_rfl)]
  have h : (Extern.BytealgCompare.compare #[.slice A a.length c, .slice B b.length d]).run Tryz.prog w = .ok (.int .i64 (cmpL a b)) w := by
    change Sem.run Tryz.prog (do pure (goInt (Extern.BytealgCompare.cmp (← Extern.Bytes.bytesOf (.slice A a.length c)) (← Extern.Bytes.bytesOf (.slice B b.length d))))) w = _
    simp only [Sem.run_bind, run_bytes ha c, run_bytes hb d, Result.andThen, Sem.run_pure]
    rw [Lib.cmp_eq, cmpL_lib]
    rfl
  rw [h]
  rfl
theorem bytesCompare_calls {w : World} {A B : Option Addr} {a b : List UInt8} (ha : Byt w A a) (hb : Byt w B b) (c d : Nat) :
    Calls Tryz.prog 158 #[.slice A a.length c, .slice B b.length d] w fun e w' => e = .returned (.int .i64 (cmpL a b)) ∧ w = w' := by
  have hr := run_compare ha hb c d
  generalize cmpL a b = r at *
  clear ha hb
  go_enter Tryz.func158, Tryz.ntmps158
  go_wp2
  go_ret
  exact ⟨rfl, rfl⟩
end Go.Proofs.YtblabjfjhlablaaGreatDoor
