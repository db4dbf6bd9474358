/- The walks of impl's small ones: any, copied, codes; a copy of texts. -/
import Derived.Test.YtblabjfjhlablaaGreatDoorWr
import Derived.Test.YtblabjfjhlablaaGreatDoorW11
namespace Go.Proofs.YtblabjfjhlablaaGreatDoor
open Go.RowKit Nc
theorem str_info : (Tryz.prog.info? 9).map (fun i => (i.zero, i.size, i.bytes)) = some (some (.string ⟨#[]⟩), 1, 16) := by kernel_rfl
theorem u8_info : (Tryz.prog.info? 5).map (fun i => (i.zero, i.size, i.bytes)) = some (some (.int .u8 0), 1, 1) := by kernel_rfl
/-- A slice value that reads as texts. -/
def Txt (w : World) (v : Value) (l : List ByteArray) : Prop := ∃ A c, v = .slice A l.length c ∧ Reads w w.heap.size 1 A l.length (l.map .string)
theorem Txt.later {w w' : World} {v : Value} {l : List ByteArray} (h : Txt w v l) (hb : Below w.heap.size w w') : Txt w' v l := by
  obtain ⟨A, c, h1, h2⟩ := h
  exact ⟨A, c, h1, (h2.below hb).more hb.size⟩
theorem Txt.drew {w : World} {v : Value} {l : List ByteArray} (h : Txt w v l) : Txt w.drew v l := h
theorem Txt.nil {w : World} {v : Value} {c : Nat} (h : v = .slice none 0 c) : Txt w v [] := ⟨none, c, h, .none_⟩
theorem Txt.of_row {w : World} {v : Value} {l : List ByteArray} (h : SRow w 9 v (l.map .string)) : Txt w v l := by
  rcases h with ⟨h1, h2⟩ | ⟨g, cap, cur, h1, h2, _, _, _, h6⟩
  · have : l = [] := by simpa using h2
    subst this
    exact .nil h1
  · refine ⟨some ⟨g, 0, none⟩, cap, by rw [h1]; simp, by simp, fun _ => ⟨⟨g, 0, none⟩, rfl, h2.lt, fun j u hu => ?_⟩⟩
    rw [show (⟨g, 0, none⟩ : Addr).add j = ⟨g, j, none⟩ by unfold Addr.add; split <;> simp_all]
    exact h2.at_ j (h6 j u hu)
theorem ones_strings (l : List ByteArray) : ∀ u ∈ l.map Value.string, u.oneCell' = true := by
  intro u hu
  obtain ⟨s, _, rfl⟩ := List.mem_map.1 hu
  rfl
theorem any_calls (A1 A2 A3 A4 : Option Addr) (n1 n2 n3 n4 c1 c2 c3 c4 : Nat) (w : World) (h1 : n1 ≤ 1000000) (h2 : n2 ≤ 1000000) (h3 : n3 ≤ 1000000) (h4 : n4 ≤ 1000000) :
    Calls Tryz.prog 85 #[.agg #[.slice A1 n1 c1, .slice A2 n2 c2, .slice A3 n3 c3, .slice A4 n4 c4]] w fun e w' => e = .returned (.bool (decide (0 < n1 + n2 + n3 + n4))) ∧ Below w.heap.size w w' := by
  have hd : decide ((0 : Int) < (n1 : Int) + (n2 : Int) + (n3 : Int) + (n4 : Int)) = decide (0 < n1 + n2 + n3 + n4) := decide_eq_decide.2 (by omega)
  go_enter Tryz.func85, Tryz.ntmps85
  go_wp2
  go_ret
  exact ⟨by rw [← hd]; rfl, (Below.refl _ _).alloc (Nat.le_refl _) _⟩
theorem copied_calls (A : Option Addr) (n c : Nat) (xs : List Value) (w : World) (h : Reads w w.heap.size 1 A n xs) (h1 : ∀ u ∈ xs, u.oneCell' = true) (hn : n ≤ 1000000) :
    Calls Tryz.prog 67 #[.slice A n c] w fun e w' => ∃ v, e = .returned v ∧ w'.ownsRow w.heap.size 5 1 v n xs ∧ Below w.heap.size w w' := by
  obtain ⟨i0, hi0, hz0, hz1, hz2⟩ := info_parts u8_info
  go_enter Tryz.func67, Tryz.ntmps67
  go_wp2_with (first
    | (at_builtin
       refine wpList_append_any _ rfl _ (.tmp 3) _ rfl w.heap.size 5 i0 _ 1 1 Tryz.underlying43 hi0 hz0 hz1 hz2 rfl (by omega) (.slice none 0 0) 0 [] rfl
         ⟨by simp, .inl ⟨rfl, rfl⟩⟩ w.heap.size A n c xs rfl h h1 (by simp only [maxLen]; omega) (by omega) (Nat.le_refl _) ?_
       intro v1 w1 hown1 hg1 hat1
       have hbw1 : Below w.heap.size w w1 := (Below.refl _ _).grown hg1 (Nat.le_refl _) (by simp [Value.ownBlock])))
  go_ret
  exact ⟨v1, rfl, by simpa using hown1, hbw1⟩
theorem networks_nil (A : Option Addr) (c : Nat) (w : World) : Calls Tryz.prog 66 #[.slice A 0 c] w fun e w' => e = .returned (.slice none 0 0) ∧ w' = w := by
  go_enter Tryz.func66, Tryz.ntmps66
  go_wp2
  go_loop [3, 8] (fun o i => o = .slice none 0 0 ∧ i = .int .i64 0) (fun _ _ => 0)
  case atStart => exact ⟨rfl, rfl⟩
  case round =>
    obtain ⟨rfl, rfl⟩ := hrel
    go_wp2
    go_ret
    exact ⟨rfl, rfl⟩
theorem newIP_nil (A : Option Addr) (c : Nat) (w : World) : Calls Tryz.prog 88 #[.slice A 0 c] w fun e w' => e = .returned .nilIface ∧ w' = w := by
  go_enter Tryz.func88, Tryz.ntmps88
  go_wp2
  go_ret
  exact ⟨rfl, rfl⟩
theorem newMail_nil (A : Option Addr) (c : Nat) (b : Bool) (w : World) : Calls Tryz.prog 77 #[.slice A 0 c, .bool b] w fun e w' => e = .returned .nilIface ∧ w' = w := by
  go_enter Tryz.func77, Tryz.ntmps77
  go_wp2
  go_ret
  exact ⟨rfl, rfl⟩
theorem uri_info : (Tryz.prog.info? 145).map (fun i => (i.zero, i.size, i.bytes)) = some (some (.agg #[.string ⟨#[]⟩, .string ⟨#[]⟩]), 2, 32) := by kernel_rfl
theorem box_info : (Tryz.prog.info? 148).map (fun i => (i.zero, i.size, i.bytes)) = some (some (.agg #[.string ⟨#[]⟩, .string ⟨#[]⟩]), 2, 32) := by kernel_rfl
set_option maxRecDepth 100000 in
theorem parseURIs_nil (A : Option Addr) (c : Nat) (w : World) : Calls Tryz.prog 87 #[.slice A 0 c] w fun e w' => ∃ A' c', e = .returned (.tuple #[.slice A' 0 c', .nilIface]) ∧ Below w.heap.size w w' := by
  obtain ⟨i0, hi0, hz0, hz1, hz2⟩ := info_parts uri_info
  go_enter Tryz.func87, Tryz.ntmps87
  go_wp2_with (at_make; refine wpList_make_own _ rfl _ _ 117 rfl w.heap.size 145 i0 _ 2 Tryz.underlying117 hi0 hz0 hz1 _ _ _ 0 rfl rfl (by simp) (by rw [hz2]; omega) (by unfold maxLen; omega) (Nat.le_refl _) ?_; intro w1 o1 g1)
  have b1 : Below w.heap.size w w1 := (Below.refl _ _).grown g1 (Nat.le_refl _) (by simp)
  clear o1 g1
  go_loop [4, 16] (fun o i => o = .slice (some ⟨w.heap.size, 0, none⟩) 0 0 ∧ i = .int .i64 0) (fun _ _ => 0)
  case atStart => exact ⟨rfl, rfl⟩
  case round =>
    obtain ⟨rfl, rfl⟩ := hrel
    go_wp2
    go_ret2
    exact ⟨⟨_, _, rfl⟩, b1⟩
set_option maxRecDepth 100000 in
theorem parseMails_nil (A : Option Addr) (c : Nat) (w : World) : Calls Tryz.prog 76 #[.slice A 0 c] w fun e w' => ∃ A' c', e = .returned (.tuple #[.slice A' 0 c', .nilIface]) ∧ Below w.heap.size w w' := by
  obtain ⟨i0, hi0, hz0, hz1, hz2⟩ := info_parts box_info
  go_enter Tryz.func76, Tryz.ntmps76
  go_wp2_with (at_make; refine wpList_make_own _ rfl _ _ 103 rfl w.heap.size 148 i0 _ 2 Tryz.underlying103 hi0 hz0 hz1 _ _ _ 0 rfl rfl (by simp) (by rw [hz2]; omega) (by unfold maxLen; omega) (Nat.le_refl _) ?_; intro w1 o1 g1)
  have b1 : Below w.heap.size w w1 := (Below.refl _ _).grown g1 (Nat.le_refl _) (by simp)
  clear o1 g1
  go_loop [4, 14] (fun o i => o = .slice (some ⟨w.heap.size, 0, none⟩) 0 0 ∧ i = .int .i64 0) (fun _ _ => 0)
  case atStart => exact ⟨rfl, rfl⟩
  case round =>
    obtain ⟨rfl, rfl⟩ := hrel
    go_wp2
    go_ret2
    exact ⟨⟨_, _, rfl⟩, b1⟩
end Go.Proofs.YtblabjfjhlablaaGreatDoor
