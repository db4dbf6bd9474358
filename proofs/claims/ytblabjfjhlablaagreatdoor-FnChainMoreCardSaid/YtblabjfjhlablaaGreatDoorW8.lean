/- The walks of checkConstraints over names and hosts: a refusal just where the constraints refuse. -/
import Derived.Test.YtblabjfjhlablaaGreatDoorW7
namespace Go.Proofs.YtblabjfjhlablaaGreatDoor
open Go.RowKit Go.Sort Nc Go.Maps
theorem errNew_calls (s : ByteArray) (w : World) : Calls Tryz.prog 108 #[.string s] w fun e w' => e = .returned (.iface 207 (.pointer (some ⟨w.heap.size, 0, none⟩))) ∧ w.alloc (.cells #[.string s] 209) = w' := by
  go_enter Tryz.func108, Tryz.ntmps108
  go_wp2
  go_ret
  exact ⟨rfl, rfl⟩
/-- An error of errors.New. -/
def IsErr (w : World) (v : Value) (txt : ByteArray) : Prop := ∃ E, v = .iface 207 (.pointer (some ⟨E, 0, none⟩)) ∧ Blk w E 209 #[.string txt]
theorem IsErr.later {w w' : World} {v : Value} {t : ByteArray} (h : IsErr w v t) (hb : Below w.heap.size w w') : IsErr w' v t := by
  obtain ⟨E, h1, h2⟩ := h
  exact ⟨E, h1, h2.later hb⟩
def tailNot : ByteArray := ⟨#[32, 105, 115, 32, 110, 111, 116, 32, 112, 101, 114, 109, 105, 116, 116, 101, 100, 32, 98, 121, 32, 97, 110, 121, 32, 99, 111, 110, 115, 116, 114, 97, 105, 110, 116]⟩
def tailEx : ByteArray := ⟨#[32, 105, 115, 32, 101, 120, 99, 108, 117, 100, 101, 100, 32, 98, 121, 32, 97, 32, 99, 111, 110, 115, 116, 114, 97, 105, 110, 116]⟩
/-- A refusal: an error whose text ends in one of two ways. -/
def IsRefusal (w : World) (v : Value) : Prop := ∃ ty : ByteArray, ty.size ≤ 100 ∧ (IsErr w v (ty ++ tailNot) ∨ IsErr w v (ty ++ tailEx))
theorem IsRefusal.later {w w' : World} {v : Value} (h : IsRefusal w v) (hb : Below w.heap.size w w') : IsRefusal w' v := by
  obtain ⟨ty, h1, h2⟩ := h
  exact ⟨ty, h1, h2.imp (·.later hb) (·.later hb)⟩
/-- What a check says: nothing where all is good, else a refusal. -/
def Says (bad : Bool) (w : World) (e : Ending) (w' : World) : Prop := ∃ v, e = .returned v ∧ Below w.heap.size w w' ∧ ((bad = false ∧ v = .nilIface) ∨ (bad = true ∧ IsRefusal w' v))
/-- A query's answer, whatever constraint it names. -/
def TellsV (b : Bool) (w : World) (e : Ending) (w' : World) : Prop := ∃ c : Value, e = .returned (.tuple #[c, .bool b]) ∧ Below w.heap.size w w'
/-- Constraints as an interface value: nil, or asked by function f, at every later world, with one answer. -/
def Asked (T f : Nat) (w : World) (v arg : Value) (b : Option Bool) : Prop :=
  (v = .nilIface ∧ b = none) ∨ ∃ (D : Nat) (bb : Bool), v = .iface T (.pointer (some ⟨D, 0, none⟩)) ∧ b = some bb ∧ ∀ W, Below w.heap.size w W → Calls Tryz.prog f #[.pointer (some ⟨D, 0, none⟩), arg] W (TellsV bb W)
def ruledOut (p x : Option Bool) : Bool := p == some false || x == some true
theorem meth240 (a : Addr) (w : World) : (method 424 131 (.pointer (some a)) "loop.example/pub-g03134/pub/nameconstraints.query").run Tryz.prog w = .ok (240, .pointer (some a)) w := by kernel_rfl
set_option maxRecDepth 100000 in
set_option maxHeartbeats 1000000 in
theorem check109_nil_nil (ty : ByteArray) (s : ByteArray) (w : World) :
    Calls Tryz.prog 109 #[.agg #[.string ty, .nilIface, .nilIface], .string s, .string s] w (Says false w) := by
  have hm := meth240
  have hb0 : Below w.heap.size w (w.alloc (.cells #[Value.string ty, Value.nilIface, Value.nilIface] 92)) := (Below.refl w.heap.size w).alloc (Nat.le_refl _) (.cells #[Value.string ty, Value.nilIface, Value.nilIface] 92)
  have hB0 : Blk (w.alloc (.cells #[Value.string ty, Value.nilIface, Value.nilIface] 92)) w.heap.size 92 #[Value.string ty, Value.nilIface, Value.nilIface] := Blk.new w 92 #[Value.string ty, Value.nilIface, Value.nilIface]
  go_enter Tryz.func109, Tryz.ntmps109
  go_wp2
  go_ret
  exact ⟨_, rfl, hb0, .inl ⟨rfl, rfl⟩⟩
set_option maxRecDepth 100000 in
set_option maxHeartbeats 1000000 in
theorem check109_nil_yes (ty : ByteArray) (s : ByteArray) (w : World) (E : Nat) (hx : ∀ W, Below w.heap.size w W → Calls Tryz.prog 240 #[.pointer (some ⟨E, 0, none⟩), (.string s)] W (TellsV true W)) (hty : ty.size ≤ 100) :
    Calls Tryz.prog 109 #[.agg #[.string ty, .nilIface, (.iface 131 (.pointer (some ⟨E, 0, none⟩)))], .string s, .string s] w (Says true w) := by
  have hm := meth240
  have hb0 : Below w.heap.size w (w.alloc (.cells #[Value.string ty, Value.nilIface, (Value.iface 131 (.pointer (some ⟨E, 0, none⟩)))] 92)) := (Below.refl w.heap.size w).alloc (Nat.le_refl _) (.cells #[Value.string ty, Value.nilIface, (Value.iface 131 (.pointer (some ⟨E, 0, none⟩)))] 92)
  have hB0 : Blk (w.alloc (.cells #[Value.string ty, Value.nilIface, (Value.iface 131 (.pointer (some ⟨E, 0, none⟩)))] 92)) w.heap.size 92 #[Value.string ty, Value.nilIface, (Value.iface 131 (.pointer (some ⟨E, 0, none⟩)))] := Blk.new w 92 #[Value.string ty, Value.nilIface, (Value.iface 131 (.pointer (some ⟨E, 0, none⟩)))]
  have HX := Lib.hid hx
  clear hx
  go_enter Tryz.func109, Tryz.ntmps109
  go_wp2_with (fail)
  refine (HX.out _ hb0).mono ?_
  rintro e w1 ⟨v1, rfl, hc1⟩
  have hb1 := hb0.trans (hc1.mono hb0.size)
  have hB1 := hB0.later hc1
  clear hc1 hB0 hb0
  have c0 := hB1.at_ 0 rfl
  have c1 := hB1.at_ 1 rfl
  have c2 := hB1.at_ 2 rfl
  go_wp2_with (first | (go_at_call 108; refine (errNew_calls _ _).mono ?_; rintro e w9 ⟨rfl, rfl⟩))
  go_ret
  exact ⟨_, rfl, hb1.alloc hb1.size _, .inr ⟨rfl, ty, hty, .inr ⟨_, rfl, Blk.new _ _ _⟩⟩⟩
set_option maxRecDepth 100000 in
set_option maxHeartbeats 1000000 in
theorem check109_nil_no (ty : ByteArray) (s : ByteArray) (w : World) (E : Nat) (hx : ∀ W, Below w.heap.size w W → Calls Tryz.prog 240 #[.pointer (some ⟨E, 0, none⟩), (.string s)] W (TellsV false W)) :
    Calls Tryz.prog 109 #[.agg #[.string ty, .nilIface, (.iface 131 (.pointer (some ⟨E, 0, none⟩)))], .string s, .string s] w (Says false w) := by
  have hm := meth240
  have hb0 : Below w.heap.size w (w.alloc (.cells #[Value.string ty, Value.nilIface, (Value.iface 131 (.pointer (some ⟨E, 0, none⟩)))] 92)) := (Below.refl w.heap.size w).alloc (Nat.le_refl _) (.cells #[Value.string ty, Value.nilIface, (Value.iface 131 (.pointer (some ⟨E, 0, none⟩)))] 92)
  have hB0 : Blk (w.alloc (.cells #[Value.string ty, Value.nilIface, (Value.iface 131 (.pointer (some ⟨E, 0, none⟩)))] 92)) w.heap.size 92 #[Value.string ty, Value.nilIface, (Value.iface 131 (.pointer (some ⟨E, 0, none⟩)))] := Blk.new w 92 #[Value.string ty, Value.nilIface, (Value.iface 131 (.pointer (some ⟨E, 0, none⟩)))]
  have HX := Lib.hid hx
  clear hx
  go_enter Tryz.func109, Tryz.ntmps109
  go_wp2_with (fail)
  refine (HX.out _ hb0).mono ?_
  rintro e w1 ⟨v1, rfl, hc1⟩
  have hb1 := hb0.trans (hc1.mono hb0.size)
  have hB1 := hB0.later hc1
  clear hc1 hB0 hb0
  have c0 := hB1.at_ 0 rfl
  have c1 := hB1.at_ 1 rfl
  have c2 := hB1.at_ 2 rfl
  go_wp2
  go_ret
  exact ⟨_, rfl, hb1, .inl ⟨rfl, rfl⟩⟩
set_option maxRecDepth 100000 in
set_option maxHeartbeats 1000000 in
theorem check109_yes_nil (ty : ByteArray) (s : ByteArray) (w : World) (D : Nat) (hp : ∀ W, Below w.heap.size w W → Calls Tryz.prog 240 #[.pointer (some ⟨D, 0, none⟩), (.string s)] W (TellsV true W)) :
    Calls Tryz.prog 109 #[.agg #[.string ty, (.iface 131 (.pointer (some ⟨D, 0, none⟩))), .nilIface], .string s, .string s] w (Says false w) := by
  have hm := meth240
  have hb0 : Below w.heap.size w (w.alloc (.cells #[Value.string ty, (Value.iface 131 (.pointer (some ⟨D, 0, none⟩))), Value.nilIface] 92)) := (Below.refl w.heap.size w).alloc (Nat.le_refl _) (.cells #[Value.string ty, (Value.iface 131 (.pointer (some ⟨D, 0, none⟩))), Value.nilIface] 92)
  have hB0 : Blk (w.alloc (.cells #[Value.string ty, (Value.iface 131 (.pointer (some ⟨D, 0, none⟩))), Value.nilIface] 92)) w.heap.size 92 #[Value.string ty, (Value.iface 131 (.pointer (some ⟨D, 0, none⟩))), Value.nilIface] := Blk.new w 92 #[Value.string ty, (Value.iface 131 (.pointer (some ⟨D, 0, none⟩))), Value.nilIface]
  have HP := Lib.hid hp
  clear hp
  go_enter Tryz.func109, Tryz.ntmps109
  go_wp2_with (fail)
  refine (HP.out _ hb0).mono ?_
  rintro e w1 ⟨v1, rfl, hc1⟩
  have hb1 := hb0.trans (hc1.mono hb0.size)
  have hB1 := hB0.later hc1
  clear hc1 hB0 hb0
  have c0 := hB1.at_ 0 rfl
  have c1 := hB1.at_ 1 rfl
  have c2 := hB1.at_ 2 rfl
  go_wp2
  go_ret
  exact ⟨_, rfl, hb1, .inl ⟨rfl, rfl⟩⟩
set_option maxRecDepth 100000 in
set_option maxHeartbeats 1000000 in
theorem check109_yes_yes (ty : ByteArray) (s : ByteArray) (w : World) (D : Nat) (hp : ∀ W, Below w.heap.size w W → Calls Tryz.prog 240 #[.pointer (some ⟨D, 0, none⟩), (.string s)] W (TellsV true W)) (E : Nat) (hx : ∀ W, Below w.heap.size w W → Calls Tryz.prog 240 #[.pointer (some ⟨E, 0, none⟩), (.string s)] W (TellsV true W)) (hty : ty.size ≤ 100) :
    Calls Tryz.prog 109 #[.agg #[.string ty, (.iface 131 (.pointer (some ⟨D, 0, none⟩))), (.iface 131 (.pointer (some ⟨E, 0, none⟩)))], .string s, .string s] w (Says true w) := by
  have hm := meth240
  have hb0 : Below w.heap.size w (w.alloc (.cells #[Value.string ty, (Value.iface 131 (.pointer (some ⟨D, 0, none⟩))), (Value.iface 131 (.pointer (some ⟨E, 0, none⟩)))] 92)) := (Below.refl w.heap.size w).alloc (Nat.le_refl _) (.cells #[Value.string ty, (Value.iface 131 (.pointer (some ⟨D, 0, none⟩))), (Value.iface 131 (.pointer (some ⟨E, 0, none⟩)))] 92)
  have hB0 : Blk (w.alloc (.cells #[Value.string ty, (Value.iface 131 (.pointer (some ⟨D, 0, none⟩))), (Value.iface 131 (.pointer (some ⟨E, 0, none⟩)))] 92)) w.heap.size 92 #[Value.string ty, (Value.iface 131 (.pointer (some ⟨D, 0, none⟩))), (Value.iface 131 (.pointer (some ⟨E, 0, none⟩)))] := Blk.new w 92 #[Value.string ty, (Value.iface 131 (.pointer (some ⟨D, 0, none⟩))), (Value.iface 131 (.pointer (some ⟨E, 0, none⟩)))]
  have HP := Lib.hid hp
  clear hp
  have HX := Lib.hid hx
  clear hx
  go_enter Tryz.func109, Tryz.ntmps109
  go_wp2_with (fail)
  refine (HP.out _ hb0).mono ?_
  rintro e w1 ⟨v1, rfl, hc1⟩
  have hb1 := hb0.trans (hc1.mono hb0.size)
  have hB1 := hB0.later hc1
  clear hc1 hB0 hb0
  have c0 := hB1.at_ 0 rfl
  have c1 := hB1.at_ 1 rfl
  have c2 := hB1.at_ 2 rfl
  go_wp2_with (fail)
  refine (HX.out _ hb1).mono ?_
  rintro e w2 ⟨v2, rfl, hc2⟩
  have hb2 := hb1.trans (hc2.mono hb1.size)
  have hB2 := hB1.later hc2
  clear c0 c1 c2
  clear hc2 hB1 hb1
  have c0 := hB2.at_ 0 rfl
  have c1 := hB2.at_ 1 rfl
  have c2 := hB2.at_ 2 rfl
  go_wp2_with (first | (go_at_call 108; refine (errNew_calls _ _).mono ?_; rintro e w9 ⟨rfl, rfl⟩))
  go_ret
  exact ⟨_, rfl, hb2.alloc hb2.size _, .inr ⟨rfl, ty, hty, .inr ⟨_, rfl, Blk.new _ _ _⟩⟩⟩
set_option maxRecDepth 100000 in
set_option maxHeartbeats 1000000 in
theorem check109_yes_no (ty : ByteArray) (s : ByteArray) (w : World) (D : Nat) (hp : ∀ W, Below w.heap.size w W → Calls Tryz.prog 240 #[.pointer (some ⟨D, 0, none⟩), (.string s)] W (TellsV true W)) (E : Nat) (hx : ∀ W, Below w.heap.size w W → Calls Tryz.prog 240 #[.pointer (some ⟨E, 0, none⟩), (.string s)] W (TellsV false W)) :
    Calls Tryz.prog 109 #[.agg #[.string ty, (.iface 131 (.pointer (some ⟨D, 0, none⟩))), (.iface 131 (.pointer (some ⟨E, 0, none⟩)))], .string s, .string s] w (Says false w) := by
  have hm := meth240
  have hb0 : Below w.heap.size w (w.alloc (.cells #[Value.string ty, (Value.iface 131 (.pointer (some ⟨D, 0, none⟩))), (Value.iface 131 (.pointer (some ⟨E, 0, none⟩)))] 92)) := (Below.refl w.heap.size w).alloc (Nat.le_refl _) (.cells #[Value.string ty, (Value.iface 131 (.pointer (some ⟨D, 0, none⟩))), (Value.iface 131 (.pointer (some ⟨E, 0, none⟩)))] 92)
  have hB0 : Blk (w.alloc (.cells #[Value.string ty, (Value.iface 131 (.pointer (some ⟨D, 0, none⟩))), (Value.iface 131 (.pointer (some ⟨E, 0, none⟩)))] 92)) w.heap.size 92 #[Value.string ty, (Value.iface 131 (.pointer (some ⟨D, 0, none⟩))), (Value.iface 131 (.pointer (some ⟨E, 0, none⟩)))] := Blk.new w 92 #[Value.string ty, (Value.iface 131 (.pointer (some ⟨D, 0, none⟩))), (Value.iface 131 (.pointer (some ⟨E, 0, none⟩)))]
  have HP := Lib.hid hp
  clear hp
  have HX := Lib.hid hx
  clear hx
  go_enter Tryz.func109, Tryz.ntmps109
  go_wp2_with (fail)
  refine (HP.out _ hb0).mono ?_
  rintro e w1 ⟨v1, rfl, hc1⟩
  have hb1 := hb0.trans (hc1.mono hb0.size)
  have hB1 := hB0.later hc1
  clear hc1 hB0 hb0
  have c0 := hB1.at_ 0 rfl
  have c1 := hB1.at_ 1 rfl
  have c2 := hB1.at_ 2 rfl
  go_wp2_with (fail)
  refine (HX.out _ hb1).mono ?_
  rintro e w2 ⟨v2, rfl, hc2⟩
  have hb2 := hb1.trans (hc2.mono hb1.size)
  have hB2 := hB1.later hc2
  clear c0 c1 c2
  clear hc2 hB1 hb1
  have c0 := hB2.at_ 0 rfl
  have c1 := hB2.at_ 1 rfl
  have c2 := hB2.at_ 2 rfl
  go_wp2
  go_ret
  exact ⟨_, rfl, hb2, .inl ⟨rfl, rfl⟩⟩
set_option maxRecDepth 100000 in
set_option maxHeartbeats 1000000 in
theorem check109_no_nil (ty : ByteArray) (s : ByteArray) (w : World) (D : Nat) (hp : ∀ W, Below w.heap.size w W → Calls Tryz.prog 240 #[.pointer (some ⟨D, 0, none⟩), (.string s)] W (TellsV false W)) (vx : Value) (hty : ty.size ≤ 100) :
    Calls Tryz.prog 109 #[.agg #[.string ty, (.iface 131 (.pointer (some ⟨D, 0, none⟩))), vx], .string s, .string s] w (Says true w) := by
  have hm := meth240
  have hb0 : Below w.heap.size w (w.alloc (.cells #[Value.string ty, (Value.iface 131 (.pointer (some ⟨D, 0, none⟩))), vx] 92)) := (Below.refl w.heap.size w).alloc (Nat.le_refl _) (.cells #[Value.string ty, (Value.iface 131 (.pointer (some ⟨D, 0, none⟩))), vx] 92)
  have hB0 : Blk (w.alloc (.cells #[Value.string ty, (Value.iface 131 (.pointer (some ⟨D, 0, none⟩))), vx] 92)) w.heap.size 92 #[Value.string ty, (Value.iface 131 (.pointer (some ⟨D, 0, none⟩))), vx] := Blk.new w 92 #[Value.string ty, (Value.iface 131 (.pointer (some ⟨D, 0, none⟩))), vx]
  have HP := Lib.hid hp
  clear hp
  go_enter Tryz.func109, Tryz.ntmps109
  go_wp2_with (fail)
  refine (HP.out _ hb0).mono ?_
  rintro e w1 ⟨v1, rfl, hc1⟩
  have hb1 := hb0.trans (hc1.mono hb0.size)
  have hB1 := hB0.later hc1
  clear hc1 hB0 hb0
  have c0 := hB1.at_ 0 rfl
  have c1 := hB1.at_ 1 rfl
  have c2 := hB1.at_ 2 rfl
  go_wp2_with (first | (go_at_call 108; refine (errNew_calls _ _).mono ?_; rintro e w9 ⟨rfl, rfl⟩))
  go_ret
  exact ⟨_, rfl, hb1.alloc hb1.size _, .inr ⟨rfl, ty, hty, .inl ⟨_, rfl, Blk.new _ _ _⟩⟩⟩
/-- checkConstraints (109): whether a name is refused. -/
theorem check109_calls (ty : ByteArray) (s : ByteArray) (vp vx : Value) (p x : Option Bool) (w : World) (hp : Asked 131 240 w vp (.string s) p) (hx : Asked 131 240 w vx (.string s) x) (hty : ty.size ≤ 100) :
    Calls Tryz.prog 109 #[.agg #[.string ty, vp, vx], .string s, .string s] w (Says (ruledOut p x) w) := by
  rcases hp with ⟨rfl, rfl⟩ | ⟨D, bp, rfl, rfl, hp⟩
  · rcases hx with ⟨rfl, rfl⟩ | ⟨E, bx, rfl, rfl, hx⟩
    · exact check109_nil_nil ty s w
    · cases bx
      · exact check109_nil_no ty s w E hx
      · exact check109_nil_yes ty s w E hx hty
  · cases bp
    · exact check109_no_nil ty s w D hp vx hty
    · rcases hx with ⟨rfl, rfl⟩ | ⟨E, bx, rfl, rfl, hx⟩
      · exact check109_yes_nil ty s w D hp
      · cases bx
        · exact check109_yes_no ty s w D hp E hx
        · exact check109_yes_yes ty s w D hp E hx hty
set_option maxRecDepth 100000 in
set_option maxHeartbeats 1000000 in
theorem check110_nil_nil (ty : ByteArray) (s u s' : ByteArray) (w : World) :
    Calls Tryz.prog 110 #[.agg #[.string ty, .nilIface, .nilIface], .string s, .agg #[.string u, .string s']] w (Says false w) := by
  have hm := meth240
  have hb0 : Below w.heap.size w ((w.alloc (.cells #[Value.string ty, Value.nilIface, Value.nilIface] 92)).alloc (.cells #[Value.string u, Value.string s'] 145)) := Below.alloc ((Below.refl w.heap.size w).alloc (Nat.le_refl _) (.cells #[Value.string ty, Value.nilIface, Value.nilIface] 92)) (by simp) (.cells #[Value.string u, Value.string s'] 145)
  have hB0 : Blk ((w.alloc (.cells #[Value.string ty, Value.nilIface, Value.nilIface] 92)).alloc (.cells #[Value.string u, Value.string s'] 145)) w.heap.size 92 #[Value.string ty, Value.nilIface, Value.nilIface] := Blk.alloc (Blk.new w 92 #[Value.string ty, Value.nilIface, Value.nilIface]) (.cells #[Value.string u, Value.string s'] 145)
  go_enter Tryz.func110, Tryz.ntmps110
  go_wp2
  go_ret
  exact ⟨_, rfl, hb0, .inl ⟨rfl, rfl⟩⟩
set_option maxRecDepth 100000 in
set_option maxHeartbeats 1000000 in
theorem check110_nil_yes (ty : ByteArray) (s u s' : ByteArray) (w : World) (E : Nat) (hx : ∀ W, Below w.heap.size w W → Calls Tryz.prog 240 #[.pointer (some ⟨E, 0, none⟩), (.string s)] W (TellsV true W)) (hty : ty.size ≤ 100) :
    Calls Tryz.prog 110 #[.agg #[.string ty, .nilIface, (.iface 131 (.pointer (some ⟨E, 0, none⟩)))], .string s, .agg #[.string u, .string s']] w (Says true w) := by
  have hm := meth240
  have hb0 : Below w.heap.size w ((w.alloc (.cells #[Value.string ty, Value.nilIface, (Value.iface 131 (.pointer (some ⟨E, 0, none⟩)))] 92)).alloc (.cells #[Value.string u, Value.string s'] 145)) := Below.alloc ((Below.refl w.heap.size w).alloc (Nat.le_refl _) (.cells #[Value.string ty, Value.nilIface, (Value.iface 131 (.pointer (some ⟨E, 0, none⟩)))] 92)) (by simp) (.cells #[Value.string u, Value.string s'] 145)
  have hB0 : Blk ((w.alloc (.cells #[Value.string ty, Value.nilIface, (Value.iface 131 (.pointer (some ⟨E, 0, none⟩)))] 92)).alloc (.cells #[Value.string u, Value.string s'] 145)) w.heap.size 92 #[Value.string ty, Value.nilIface, (Value.iface 131 (.pointer (some ⟨E, 0, none⟩)))] := Blk.alloc (Blk.new w 92 #[Value.string ty, Value.nilIface, (Value.iface 131 (.pointer (some ⟨E, 0, none⟩)))]) (.cells #[Value.string u, Value.string s'] 145)
  have HX := Lib.hid hx
  clear hx
  go_enter Tryz.func110, Tryz.ntmps110
  go_wp2_with (fail)
  refine (HX.out _ hb0).mono ?_
  rintro e w1 ⟨v1, rfl, hc1⟩
  have hb1 := hb0.trans (hc1.mono hb0.size)
  have hB1 := hB0.later hc1
  clear hc1 hB0 hb0
  have c0 := hB1.at_ 0 rfl
  have c1 := hB1.at_ 1 rfl
  have c2 := hB1.at_ 2 rfl
  go_wp2_with (first | (go_at_call 108; refine (errNew_calls _ _).mono ?_; rintro e w9 ⟨rfl, rfl⟩))
  go_ret
  exact ⟨_, rfl, hb1.alloc hb1.size _, .inr ⟨rfl, ty, hty, .inr ⟨_, rfl, Blk.new _ _ _⟩⟩⟩
set_option maxRecDepth 100000 in
set_option maxHeartbeats 1000000 in
theorem check110_nil_no (ty : ByteArray) (s u s' : ByteArray) (w : World) (E : Nat) (hx : ∀ W, Below w.heap.size w W → Calls Tryz.prog 240 #[.pointer (some ⟨E, 0, none⟩), (.string s)] W (TellsV false W)) :
    Calls Tryz.prog 110 #[.agg #[.string ty, .nilIface, (.iface 131 (.pointer (some ⟨E, 0, none⟩)))], .string s, .agg #[.string u, .string s']] w (Says false w) := by
  have hm := meth240
  have hb0 : Below w.heap.size w ((w.alloc (.cells #[Value.string ty, Value.nilIface, (Value.iface 131 (.pointer (some ⟨E, 0, none⟩)))] 92)).alloc (.cells #[Value.string u, Value.string s'] 145)) := Below.alloc ((Below.refl w.heap.size w).alloc (Nat.le_refl _) (.cells #[Value.string ty, Value.nilIface, (Value.iface 131 (.pointer (some ⟨E, 0, none⟩)))] 92)) (by simp) (.cells #[Value.string u, Value.string s'] 145)
  have hB0 : Blk ((w.alloc (.cells #[Value.string ty, Value.nilIface, (Value.iface 131 (.pointer (some ⟨E, 0, none⟩)))] 92)).alloc (.cells #[Value.string u, Value.string s'] 145)) w.heap.size 92 #[Value.string ty, Value.nilIface, (Value.iface 131 (.pointer (some ⟨E, 0, none⟩)))] := Blk.alloc (Blk.new w 92 #[Value.string ty, Value.nilIface, (Value.iface 131 (.pointer (some ⟨E, 0, none⟩)))]) (.cells #[Value.string u, Value.string s'] 145)
  have HX := Lib.hid hx
  clear hx
  go_enter Tryz.func110, Tryz.ntmps110
  go_wp2_with (fail)
  refine (HX.out _ hb0).mono ?_
  rintro e w1 ⟨v1, rfl, hc1⟩
  have hb1 := hb0.trans (hc1.mono hb0.size)
  have hB1 := hB0.later hc1
  clear hc1 hB0 hb0
  have c0 := hB1.at_ 0 rfl
  have c1 := hB1.at_ 1 rfl
  have c2 := hB1.at_ 2 rfl
  go_wp2
  go_ret
  exact ⟨_, rfl, hb1, .inl ⟨rfl, rfl⟩⟩
set_option maxRecDepth 100000 in
set_option maxHeartbeats 1000000 in
theorem check110_yes_nil (ty : ByteArray) (s u s' : ByteArray) (w : World) (D : Nat) (hp : ∀ W, Below w.heap.size w W → Calls Tryz.prog 240 #[.pointer (some ⟨D, 0, none⟩), (.string s)] W (TellsV true W)) :
    Calls Tryz.prog 110 #[.agg #[.string ty, (.iface 131 (.pointer (some ⟨D, 0, none⟩))), .nilIface], .string s, .agg #[.string u, .string s']] w (Says false w) := by
  have hm := meth240
  have hb0 : Below w.heap.size w ((w.alloc (.cells #[Value.string ty, (Value.iface 131 (.pointer (some ⟨D, 0, none⟩))), Value.nilIface] 92)).alloc (.cells #[Value.string u, Value.string s'] 145)) := Below.alloc ((Below.refl w.heap.size w).alloc (Nat.le_refl _) (.cells #[Value.string ty, (Value.iface 131 (.pointer (some ⟨D, 0, none⟩))), Value.nilIface] 92)) (by simp) (.cells #[Value.string u, Value.string s'] 145)
  have hB0 : Blk ((w.alloc (.cells #[Value.string ty, (Value.iface 131 (.pointer (some ⟨D, 0, none⟩))), Value.nilIface] 92)).alloc (.cells #[Value.string u, Value.string s'] 145)) w.heap.size 92 #[Value.string ty, (Value.iface 131 (.pointer (some ⟨D, 0, none⟩))), Value.nilIface] := Blk.alloc (Blk.new w 92 #[Value.string ty, (Value.iface 131 (.pointer (some ⟨D, 0, none⟩))), Value.nilIface]) (.cells #[Value.string u, Value.string s'] 145)
  have HP := Lib.hid hp
  clear hp
  go_enter Tryz.func110, Tryz.ntmps110
  go_wp2_with (fail)
  refine (HP.out _ hb0).mono ?_
  rintro e w1 ⟨v1, rfl, hc1⟩
  have hb1 := hb0.trans (hc1.mono hb0.size)
  have hB1 := hB0.later hc1
  clear hc1 hB0 hb0
  have c0 := hB1.at_ 0 rfl
  have c1 := hB1.at_ 1 rfl
  have c2 := hB1.at_ 2 rfl
  go_wp2
  go_ret
  exact ⟨_, rfl, hb1, .inl ⟨rfl, rfl⟩⟩
set_option maxRecDepth 100000 in
set_option maxHeartbeats 1000000 in
theorem check110_yes_yes (ty : ByteArray) (s u s' : ByteArray) (w : World) (D : Nat) (hp : ∀ W, Below w.heap.size w W → Calls Tryz.prog 240 #[.pointer (some ⟨D, 0, none⟩), (.string s)] W (TellsV true W)) (E : Nat) (hx : ∀ W, Below w.heap.size w W → Calls Tryz.prog 240 #[.pointer (some ⟨E, 0, none⟩), (.string s)] W (TellsV true W)) (hty : ty.size ≤ 100) :
    Calls Tryz.prog 110 #[.agg #[.string ty, (.iface 131 (.pointer (some ⟨D, 0, none⟩))), (.iface 131 (.pointer (some ⟨E, 0, none⟩)))], .string s, .agg #[.string u, .string s']] w (Says true w) := by
  have hm := meth240
  have hb0 : Below w.heap.size w ((w.alloc (.cells #[Value.string ty, (Value.iface 131 (.pointer (some ⟨D, 0, none⟩))), (Value.iface 131 (.pointer (some ⟨E, 0, none⟩)))] 92)).alloc (.cells #[Value.string u, Value.string s'] 145)) := Below.alloc ((Below.refl w.heap.size w).alloc (Nat.le_refl _) (.cells #[Value.string ty, (Value.iface 131 (.pointer (some ⟨D, 0, none⟩))), (Value.iface 131 (.pointer (some ⟨E, 0, none⟩)))] 92)) (by simp) (.cells #[Value.string u, Value.string s'] 145)
  have hB0 : Blk ((w.alloc (.cells #[Value.string ty, (Value.iface 131 (.pointer (some ⟨D, 0, none⟩))), (Value.iface 131 (.pointer (some ⟨E, 0, none⟩)))] 92)).alloc (.cells #[Value.string u, Value.string s'] 145)) w.heap.size 92 #[Value.string ty, (Value.iface 131 (.pointer (some ⟨D, 0, none⟩))), (Value.iface 131 (.pointer (some ⟨E, 0, none⟩)))] := Blk.alloc (Blk.new w 92 #[Value.string ty, (Value.iface 131 (.pointer (some ⟨D, 0, none⟩))), (Value.iface 131 (.pointer (some ⟨E, 0, none⟩)))]) (.cells #[Value.string u, Value.string s'] 145)
  have HP := Lib.hid hp
  clear hp
  have HX := Lib.hid hx
  clear hx
  go_enter Tryz.func110, Tryz.ntmps110
  go_wp2_with (fail)
  refine (HP.out _ hb0).mono ?_
  rintro e w1 ⟨v1, rfl, hc1⟩
  have hb1 := hb0.trans (hc1.mono hb0.size)
  have hB1 := hB0.later hc1
  clear hc1 hB0 hb0
  have c0 := hB1.at_ 0 rfl
  have c1 := hB1.at_ 1 rfl
  have c2 := hB1.at_ 2 rfl
  go_wp2_with (fail)
  refine (HX.out _ hb1).mono ?_
  rintro e w2 ⟨v2, rfl, hc2⟩
  have hb2 := hb1.trans (hc2.mono hb1.size)
  have hB2 := hB1.later hc2
  clear c0 c1 c2
  clear hc2 hB1 hb1
  have c0 := hB2.at_ 0 rfl
  have c1 := hB2.at_ 1 rfl
  have c2 := hB2.at_ 2 rfl
  go_wp2_with (first | (go_at_call 108; refine (errNew_calls _ _).mono ?_; rintro e w9 ⟨rfl, rfl⟩))
  go_ret
  exact ⟨_, rfl, hb2.alloc hb2.size _, .inr ⟨rfl, ty, hty, .inr ⟨_, rfl, Blk.new _ _ _⟩⟩⟩
set_option maxRecDepth 100000 in
set_option maxHeartbeats 1000000 in
theorem check110_yes_no (ty : ByteArray) (s u s' : ByteArray) (w : World) (D : Nat) (hp : ∀ W, Below w.heap.size w W → Calls Tryz.prog 240 #[.pointer (some ⟨D, 0, none⟩), (.string s)] W (TellsV true W)) (E : Nat) (hx : ∀ W, Below w.heap.size w W → Calls Tryz.prog 240 #[.pointer (some ⟨E, 0, none⟩), (.string s)] W (TellsV false W)) :
    Calls Tryz.prog 110 #[.agg #[.string ty, (.iface 131 (.pointer (some ⟨D, 0, none⟩))), (.iface 131 (.pointer (some ⟨E, 0, none⟩)))], .string s, .agg #[.string u, .string s']] w (Says false w) := by
  have hm := meth240
  have hb0 : Below w.heap.size w ((w.alloc (.cells #[Value.string ty, (Value.iface 131 (.pointer (some ⟨D, 0, none⟩))), (Value.iface 131 (.pointer (some ⟨E, 0, none⟩)))] 92)).alloc (.cells #[Value.string u, Value.string s'] 145)) := Below.alloc ((Below.refl w.heap.size w).alloc (Nat.le_refl _) (.cells #[Value.string ty, (Value.iface 131 (.pointer (some ⟨D, 0, none⟩))), (Value.iface 131 (.pointer (some ⟨E, 0, none⟩)))] 92)) (by simp) (.cells #[Value.string u, Value.string s'] 145)
  have hB0 : Blk ((w.alloc (.cells #[Value.string ty, (Value.iface 131 (.pointer (some ⟨D, 0, none⟩))), (Value.iface 131 (.pointer (some ⟨E, 0, none⟩)))] 92)).alloc (.cells #[Value.string u, Value.string s'] 145)) w.heap.size 92 #[Value.string ty, (Value.iface 131 (.pointer (some ⟨D, 0, none⟩))), (Value.iface 131 (.pointer (some ⟨E, 0, none⟩)))] := Blk.alloc (Blk.new w 92 #[Value.string ty, (Value.iface 131 (.pointer (some ⟨D, 0, none⟩))), (Value.iface 131 (.pointer (some ⟨E, 0, none⟩)))]) (.cells #[Value.string u, Value.string s'] 145)
  have HP := Lib.hid hp
  clear hp
  have HX := Lib.hid hx
  clear hx
  go_enter Tryz.func110, Tryz.ntmps110
  go_wp2_with (fail)
  refine (HP.out _ hb0).mono ?_
  rintro e w1 ⟨v1, rfl, hc1⟩
  have hb1 := hb0.trans (hc1.mono hb0.size)
  have hB1 := hB0.later hc1
  clear hc1 hB0 hb0
  have c0 := hB1.at_ 0 rfl
  have c1 := hB1.at_ 1 rfl
  have c2 := hB1.at_ 2 rfl
  go_wp2_with (fail)
  refine (HX.out _ hb1).mono ?_
  rintro e w2 ⟨v2, rfl, hc2⟩
  have hb2 := hb1.trans (hc2.mono hb1.size)
  have hB2 := hB1.later hc2
  clear c0 c1 c2
  clear hc2 hB1 hb1
  have c0 := hB2.at_ 0 rfl
  have c1 := hB2.at_ 1 rfl
  have c2 := hB2.at_ 2 rfl
  go_wp2
  go_ret
  exact ⟨_, rfl, hb2, .inl ⟨rfl, rfl⟩⟩
set_option maxRecDepth 100000 in
set_option maxHeartbeats 1000000 in
theorem check110_no_nil (ty : ByteArray) (s u s' : ByteArray) (w : World) (D : Nat) (hp : ∀ W, Below w.heap.size w W → Calls Tryz.prog 240 #[.pointer (some ⟨D, 0, none⟩), (.string s)] W (TellsV false W)) (vx : Value) (hty : ty.size ≤ 100) :
    Calls Tryz.prog 110 #[.agg #[.string ty, (.iface 131 (.pointer (some ⟨D, 0, none⟩))), vx], .string s, .agg #[.string u, .string s']] w (Says true w) := by
  have hm := meth240
  have hb0 : Below w.heap.size w ((w.alloc (.cells #[Value.string ty, (Value.iface 131 (.pointer (some ⟨D, 0, none⟩))), vx] 92)).alloc (.cells #[Value.string u, Value.string s'] 145)) := Below.alloc ((Below.refl w.heap.size w).alloc (Nat.le_refl _) (.cells #[Value.string ty, (Value.iface 131 (.pointer (some ⟨D, 0, none⟩))), vx] 92)) (by simp) (.cells #[Value.string u, Value.string s'] 145)
  have hB0 : Blk ((w.alloc (.cells #[Value.string ty, (Value.iface 131 (.pointer (some ⟨D, 0, none⟩))), vx] 92)).alloc (.cells #[Value.string u, Value.string s'] 145)) w.heap.size 92 #[Value.string ty, (Value.iface 131 (.pointer (some ⟨D, 0, none⟩))), vx] := Blk.alloc (Blk.new w 92 #[Value.string ty, (Value.iface 131 (.pointer (some ⟨D, 0, none⟩))), vx]) (.cells #[Value.string u, Value.string s'] 145)
  have HP := Lib.hid hp
  clear hp
  go_enter Tryz.func110, Tryz.ntmps110
  go_wp2_with (fail)
  refine (HP.out _ hb0).mono ?_
  rintro e w1 ⟨v1, rfl, hc1⟩
  have hb1 := hb0.trans (hc1.mono hb0.size)
  have hB1 := hB0.later hc1
  clear hc1 hB0 hb0
  have c0 := hB1.at_ 0 rfl
  have c1 := hB1.at_ 1 rfl
  have c2 := hB1.at_ 2 rfl
  go_wp2_with (first | (go_at_call 108; refine (errNew_calls _ _).mono ?_; rintro e w9 ⟨rfl, rfl⟩))
  go_ret
  exact ⟨_, rfl, hb1.alloc hb1.size _, .inr ⟨rfl, ty, hty, .inl ⟨_, rfl, Blk.new _ _ _⟩⟩⟩
/-- checkConstraints (110): whether a name is refused. -/
theorem check110_calls (ty : ByteArray) (s u s' : ByteArray) (vp vx : Value) (p x : Option Bool) (w : World) (hp : Asked 131 240 w vp (.string s) p) (hx : Asked 131 240 w vx (.string s) x) (hty : ty.size ≤ 100) :
    Calls Tryz.prog 110 #[.agg #[.string ty, vp, vx], .string s, .agg #[.string u, .string s']] w (Says (ruledOut p x) w) := by
  rcases hp with ⟨rfl, rfl⟩ | ⟨D, bp, rfl, rfl, hp⟩
  · rcases hx with ⟨rfl, rfl⟩ | ⟨E, bx, rfl, rfl, hx⟩
    · exact check110_nil_nil ty s u s' w
    · cases bx
      · exact check110_nil_no ty s u s' w E hx
      · exact check110_nil_yes ty s u s' w E hx hty
  · cases bp
    · exact check110_no_nil ty s u s' w D hp vx hty
    · rcases hx with ⟨rfl, rfl⟩ | ⟨E, bx, rfl, rfl, hx⟩
      · exact check110_yes_nil ty s u s' w D hp
      · cases bx
        · exact check110_yes_no ty s u s' w D hp E hx
        · exact check110_yes_yes ty s u s' w D hp E hx hty
end Go.Proofs.YtblabjfjhlablaaGreatDoor
