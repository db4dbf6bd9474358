/- The library's tables as laid; strings.ToLower and trimFirstLabel come to some text. -/
import Derived.Test.YtblabjfjhlablaaGreatDoorW4
import Derived.Lib.IndexLaws
import Derived.Maps.OwnSet
import Derived.StringKeys
namespace Go.Proofs.YtblabjfjhlablaaGreatDoor
open Go.RowKit Go.Sort Nc Go.Maps

/-- The library's tables hold what its text lays. -/
def Laid (w : World) : Prop := Lib.CaseVar 0 Lib.caseA w ∧ Lib.Utf8Tabs 4 5 w
theorem cell_keep {w w' : World} (hb : Below w.heap.size w w') {p : Addr} {v : Value} (h : w.cell? p = some v) : w'.cell? p = some v := (hb.cell (World.block_lt_of_cell? w p h)).trans h
theorem Laid.keep {w w' : World} (h : Laid w) (hb : Below w.heap.size w w') : Laid w' := by
  obtain ⟨⟨R, oR, cap, h1, h2⟩, h3, h4⟩ := h
  exact ⟨⟨R, oR, cap, cell_keep hb h1, fun i hi => by
    obtain ⟨a, b, c, d, e⟩ := h2 i hi
    exact ⟨cell_keep hb a, cell_keep hb b, cell_keep hb c, cell_keep hb d, cell_keep hb e⟩⟩, fun c hc => cell_keep hb (h3 c hc), fun i hi => ⟨cell_keep hb (h4 i hi).1, cell_keep hb (h4 i hi).2⟩⟩

theorem encode_le4 (z : Int) : (Lib.encodeRune z).length ≤ 4 := by
  unfold Lib.encodeRune Lib.encodeRuneZ
  rw [List.length_map]
  repeat' split
  all_goals simp
theorem mapD_len4 (f : Int → Int) : ∀ (n : Nat) (l : List UInt8), l.length ≤ n → (Lib.mapD f l).length ≤ 4 * l.length
  | 0, l, hn => by
    have : l = [] := List.eq_nil_of_length_eq_zero (by omega)
    subst this
    simp [Lib.mapD_nil]
  | n + 1, l, hn => by
    by_cases hne : l = []
    · subst hne
      simp [Lib.mapD_nil]
    · have hw := Lib.decodeL_width l
      have hle := Lib.decodeL_le l hne
      have ih := mapD_len4 f n (l.drop (Lib.decodeL l).2) (by rw [List.length_drop]; omega)
      rw [List.length_drop] at ih
      rw [Lib.mapD_step f l hne, List.length_append]
      have hh : (if 0 ≤ f (Lib.decodeL l).1 then Lib.encodeRune (f (Lib.decodeL l).1) else []).length ≤ 4 := by
        split
        · exact encode_le4 _
        · simp
      omega
/-- strings.ToLower comes to a text at most four times as long. -/
def SomeText (n : Nat) (w : World) (e : Ending) (w' : World) : Prop := ∃ s : ByteArray, s.size ≤ n ∧ e = .returned (.string s) ∧ Below w.heap.size w w'
theorem toLower_calls (s : ByteArray) (w : World) (hs : s.size ≤ 1000000) (hL : Laid w) : Calls Tryz.prog 104 #[.string s] w (SomeText (4 * s.size) w) := by
  refine (Tryz.strings_ToLower_any s w (by omega) hL.1 hL.2).mono ?_
  rintro e w' ⟨rfl, hb⟩
  refine ⟨_, ?_, rfl, hb⟩
  have h := mapD_len4 Lib.toLowerU s.data.toList.length s.data.toList (Nat.le_refl _)
  have e1 : (ByteArray.mk (Lib.toLowerD s.data.toList).toArray).size = (Lib.toLowerD s.data.toList).length := by
    show (Lib.toLowerD s.data.toList).toArray.size = _
    simp
  have e2 : s.data.toList.length = s.size := rfl
  rw [e1, ← e2]
  exact h
set_option maxHeartbeats 400000 in
theorem trimFirst_calls (s : ByteArray) (w : World) (hs : s.size ≤ 4611686018427387904) : Calls Tryz.prog 105 #[.string s] w fun e w' => SomeText s.size w e w' ∧ w = w' := by
  have hi := Lib.indexByte_ge s.data.toList 46
  have hj : Lib.indexByte s.data.toList 46 ≤ s.size := by
    rcases Int.lt_or_le (Lib.indexByte s.data.toList 46) 0 with h | h
    · omega
    · obtain ⟨o, ho⟩ := Int.eq_ofNat_of_zero_le h
      have := (Lib.indexByte_some ho).1
      have := (List.getElem?_eq_some_iff.1 this).1
      have e2 : s.data.toList.length = s.size := rfl
      omega
  have hc : ∀ W, Calls Tryz.prog 145 #[.string s, .int .u8 46] W fun e w' => e = .returned (.int .i64 (Lib.indexByte s.data.toList 46)) ∧ W = w' := fun W => (Tryz.strings_IndexByte s 46 W).mono fun _ _ ⟨h1, h2⟩ => ⟨h1, h2.symm⟩
  generalize Lib.indexByte s.data.toList 46 = i at *
  by_cases h0 : i < 0
  · go_enter Tryz.func105, Tryz.ntmps105
    go_wp2_with (first | (go_at_call 145; refine (hc _).mono ?_; rintro e w' ⟨rfl, rfl⟩))
    go_ret
    exact ⟨⟨_, by show (#[] : Array UInt8).size ≤ _; simp, rfl, Below.refl _ _⟩, rfl⟩
  · obtain ⟨o, rfl⟩ := Int.eq_ofNat_of_zero_le (Int.not_lt.1 h0)
    have ho : o ≤ s.size := by omega
    go_enter Tryz.func105, Tryz.ntmps105
    go_wp2_with (first | (go_at_call 145; refine (hc _).mono ?_; rintro e w' ⟨rfl, rfl⟩))
    go_ret
    exact ⟨⟨_, by simp, rfl, Below.refl _ _⟩, rfl⟩
end Go.Proofs.YtblabjfjhlablaaGreatDoor
