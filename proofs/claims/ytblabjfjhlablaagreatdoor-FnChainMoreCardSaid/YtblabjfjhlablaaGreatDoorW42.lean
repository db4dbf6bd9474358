/- The walk of checkConstraints over mailboxes: a refusal just where the constraints refuse. -/
import Derived.Test.YtblabjfjhlablaaGreatDoorW39
namespace Go.Proofs.YtblabjfjhlablaaGreatDoor
open Go.RowKit Go.Sort Nc Go.Maps
theorem meth245 (a : Addr) (w : World) : (method 424 155 (.pointer (some a)) "loop.example/pub-g03134/pub/nameconstraints.query").run Tryz.prog w = .ok (245, .pointer (some a)) w := by kernel_rfl
set_option maxRecDepth 100000 in
set_option maxHeartbeats 1000000 in
theorem check111_nil_nil (ty : ByteArray) (a d : ByteArray) (w : World) :
    Calls Tryz.prog 111 #[.agg #[.string ty, .nilIface, .nilIface], .agg #[.string a, .string d], .agg #[.string a, .string d]] w (Says false w) := by
  have hm := meth245
  have hb0 : Below w.heap.size w (((w.alloc (.cells #[Value.string ty, Value.nilIface, Value.nilIface] 98)).alloc (.cells #[Value.string a, Value.string d] 148)).alloc (.cells #[Value.string a, Value.string d] 148)) := Below.alloc (Below.alloc ((Below.refl w.heap.size w).alloc (Nat.le_refl _) (.cells #[Value.string ty, Value.nilIface, Value.nilIface] 98)) (by simp only [World.size_alloc]; omega) (.cells #[Value.string a, Value.string d] 148)) (by simp only [World.size_alloc]; omega) (.cells #[Value.string a, Value.string d] 148)
  have hB0 : Blk (((w.alloc (.cells #[Value.string ty, Value.nilIface, Value.nilIface] 98)).alloc (.cells #[Value.string a, Value.string d] 148)).alloc (.cells #[Value.string a, Value.string d] 148)) w.heap.size 98 #[Value.string ty, Value.nilIface, Value.nilIface] := Blk.alloc (Blk.alloc (Blk.new w 98 #[Value.string ty, Value.nilIface, Value.nilIface]) (.cells #[Value.string a, Value.string d] 148)) (.cells #[Value.string a, Value.string d] 148)
  have hM0 : Blk (((w.alloc (.cells #[Value.string ty, Value.nilIface, Value.nilIface] 98)).alloc (.cells #[Value.string a, Value.string d] 148)).alloc (.cells #[Value.string a, Value.string d] 148)) (w.heap.size + 1) 148 #[Value.string a, Value.string d] := by
    have h := Blk.alloc (Blk.new (w.alloc (.cells #[Value.string ty, Value.nilIface, Value.nilIface] 98)) 148 #[Value.string a, Value.string d]) (.cells #[Value.string a, Value.string d] 148)
    rw [World.size_alloc] at h
    exact h
  go_enter Tryz.func111, Tryz.ntmps111
  go_wp2
  go_ret
  exact ⟨_, rfl, hb0, .inl ⟨rfl, rfl⟩⟩
set_option maxRecDepth 100000 in
set_option maxHeartbeats 1000000 in
theorem check111_nil_yes (ty : ByteArray) (a d : ByteArray) (w : World) (E : Nat) (hx : ∀ W, Below w.heap.size w W → Calls Tryz.prog 245 #[.pointer (some ⟨E, 0, none⟩), (.agg #[.string a, .string d])] W (TellsV true W)) (hty : ty.size ≤ 100) :
    Calls Tryz.prog 111 #[.agg #[.string ty, .nilIface, (.iface 155 (.pointer (some ⟨E, 0, none⟩)))], .agg #[.string a, .string d], .agg #[.string a, .string d]] w (Says true w) := by
  have hm := meth245
  have hb0 : Below w.heap.size w (((w.alloc (.cells #[Value.string ty, Value.nilIface, (Value.iface 155 (.pointer (some ⟨E, 0, none⟩)))] 98)).alloc (.cells #[Value.string a, Value.string d] 148)).alloc (.cells #[Value.string a, Value.string d] 148)) := Below.alloc (Below.alloc ((Below.refl w.heap.size w).alloc (Nat.le_refl _) (.cells #[Value.string ty, Value.nilIface, (Value.iface 155 (.pointer (some ⟨E, 0, none⟩)))] 98)) (by simp only [World.size_alloc]; omega) (.cells #[Value.string a, Value.string d] 148)) (by simp only [World.size_alloc]; omega) (.cells #[Value.string a, Value.string d] 148)
  have hB0 : Blk (((w.alloc (.cells #[Value.string ty, Value.nilIface, (Value.iface 155 (.pointer (some ⟨E, 0, none⟩)))] 98)).alloc (.cells #[Value.string a, Value.string d] 148)).alloc (.cells #[Value.string a, Value.string d] 148)) w.heap.size 98 #[Value.string ty, Value.nilIface, (Value.iface 155 (.pointer (some ⟨E, 0, none⟩)))] := Blk.alloc (Blk.alloc (Blk.new w 98 #[Value.string ty, Value.nilIface, (Value.iface 155 (.pointer (some ⟨E, 0, none⟩)))]) (.cells #[Value.string a, Value.string d] 148)) (.cells #[Value.string a, Value.string d] 148)
  have hM0 : Blk (((w.alloc (.cells #[Value.string ty, Value.nilIface, (Value.iface 155 (.pointer (some ⟨E, 0, none⟩)))] 98)).alloc (.cells #[Value.string a, Value.string d] 148)).alloc (.cells #[Value.string a, Value.string d] 148)) (w.heap.size + 1) 148 #[Value.string a, Value.string d] := by
    have h := Blk.alloc (Blk.new (w.alloc (.cells #[Value.string ty, Value.nilIface, (Value.iface 155 (.pointer (some ⟨E, 0, none⟩)))] 98)) 148 #[Value.string a, Value.string d]) (.cells #[Value.string a, Value.string d] 148)
    rw [World.size_alloc] at h
    exact h
  have HX := Lib.hid hx
  clear hx
  go_enter Tryz.func111, Tryz.ntmps111
  go_wp2_with (fail)
  refine (HX.out _ hb0).mono ?_
  rintro e w1 ⟨v1, rfl, hc1⟩
  have hb1 := hb0.trans (hc1.mono hb0.size)
  have hB1 := hB0.later hc1
  have hM1 := hM0.later hc1
  clear hc1 hB0 hb0 hM0
  have c0 := hB1.at_ 0 rfl
  have c1 := hB1.at_ 1 rfl
  have c2 := hB1.at_ 2 rfl
  have m0 := hM1.at_ 0 rfl
  have m1 := hM1.at_ 1 rfl
  go_wp2_with (first | (go_at_call 108; refine (errNew_calls _ _).mono ?_; rintro e w9 ⟨rfl, rfl⟩))
  go_ret
  exact ⟨_, rfl, hb1.alloc hb1.size _, .inr ⟨rfl, ty, hty, .inr ⟨_, rfl, Blk.new _ _ _⟩⟩⟩
set_option maxRecDepth 100000 in
set_option maxHeartbeats 1000000 in
theorem check111_nil_no (ty : ByteArray) (a d : ByteArray) (w : World) (E : Nat) (hx : ∀ W, Below w.heap.size w W → Calls Tryz.prog 245 #[.pointer (some ⟨E, 0, none⟩), (.agg #[.string a, .string d])] W (TellsV false W)) :
    Calls Tryz.prog 111 #[.agg #[.string ty, .nilIface, (.iface 155 (.pointer (some ⟨E, 0, none⟩)))], .agg #[.string a, .string d], .agg #[.string a, .string d]] w (Says false w) := by
  have hm := meth245
  have hb0 : Below w.heap.size w (((w.alloc (.cells #[Value.string ty, Value.nilIface, (Value.iface 155 (.pointer (some ⟨E, 0, none⟩)))] 98)).alloc (.cells #[Value.string a, Value.string d] 148)).alloc (.cells #[Value.string a, Value.string d] 148)) := Below.alloc (Below.alloc ((Below.refl w.heap.size w).alloc (Nat.le_refl _) (.cells #[Value.string ty, Value.nilIface, (Value.iface 155 (.pointer (some ⟨E, 0, none⟩)))] 98)) (by simp only [World.size_alloc]; omega) (.cells #[Value.string a, Value.string d] 148)) (by simp only [World.size_alloc]; omega) (.cells #[Value.string a, Value.string d] 148)
  have hB0 : Blk (((w.alloc (.cells #[Value.string ty, Value.nilIface, (Value.iface 155 (.pointer (some ⟨E, 0, none⟩)))] 98)).alloc (.cells #[Value.string a, Value.string d] 148)).alloc (.cells #[Value.string a, Value.string d] 148)) w.heap.size 98 #[Value.string ty, Value.nilIface, (Value.iface 155 (.pointer (some ⟨E, 0, none⟩)))] := Blk.alloc (Blk.alloc (Blk.new w 98 #[Value.string ty, Value.nilIface, (Value.iface 155 (.pointer (some ⟨E, 0, none⟩)))]) (.cells #[Value.string a, Value.string d] 148)) (.cells #[Value.string a, Value.string d] 148)
  have hM0 : Blk (((w.alloc (.cells #[Value.string ty, Value.nilIface, (Value.iface 155 (.pointer (some ⟨E, 0, none⟩)))] 98)).alloc (.cells #[Value.string a, Value.string d] 148)).alloc (.cells #[Value.string a, Value.string d] 148)) (w.heap.size + 1) 148 #[Value.string a, Value.string d] := by
    have h := Blk.alloc (Blk.new (w.alloc (.cells #[Value.string ty, Value.nilIface, (Value.iface 155 (.pointer (some ⟨E, 0, none⟩)))] 98)) 148 #[Value.string a, Value.string d]) (.cells #[Value.string a, Value.string d] 148)
    rw [World.size_alloc] at h
    exact h
  have HX := Lib.hid hx
  clear hx
  go_enter Tryz.func111, Tryz.ntmps111
  go_wp2_with (fail)
  refine (HX.out _ hb0).mono ?_
  rintro e w1 ⟨v1, rfl, hc1⟩
  have hb1 := hb0.trans (hc1.mono hb0.size)
  have hB1 := hB0.later hc1
  have hM1 := hM0.later hc1
  clear hc1 hB0 hb0 hM0
  have c0 := hB1.at_ 0 rfl
  have c1 := hB1.at_ 1 rfl
  have c2 := hB1.at_ 2 rfl
  have m0 := hM1.at_ 0 rfl
  have m1 := hM1.at_ 1 rfl
  go_wp2
  go_ret
  exact ⟨_, rfl, hb1, .inl ⟨rfl, rfl⟩⟩
set_option maxRecDepth 100000 in
set_option maxHeartbeats 1000000 in
theorem check111_yes_nil (ty : ByteArray) (a d : ByteArray) (w : World) (D : Nat) (hp : ∀ W, Below w.heap.size w W → Calls Tryz.prog 245 #[.pointer (some ⟨D, 0, none⟩), (.agg #[.string a, .string d])] W (TellsV true W)) :
    Calls Tryz.prog 111 #[.agg #[.string ty, (.iface 155 (.pointer (some ⟨D, 0, none⟩))), .nilIface], .agg #[.string a, .string d], .agg #[.string a, .string d]] w (Says false w) := by
  have hm := meth245
  have hb0 : Below w.heap.size w (((w.alloc (.cells #[Value.string ty, (Value.iface 155 (.pointer (some ⟨D, 0, none⟩))), Value.nilIface] 98)).alloc (.cells #[Value.string a, Value.string d] 148)).alloc (.cells #[Value.string a, Value.string d] 148)) := Below.alloc (Below.alloc ((Below.refl w.heap.size w).alloc (Nat.le_refl _) (.cells #[Value.string ty, (Value.iface 155 (.pointer (some ⟨D, 0, none⟩))), Value.nilIface] 98)) (by simp only [World.size_alloc]; omega) (.cells #[Value.string a, Value.string d] 148)) (by simp only [World.size_alloc]; omega) (.cells #[Value.string a, Value.string d] 148)
  have hB0 : Blk (((w.alloc (.cells #[Value.string ty, (Value.iface 155 (.pointer (some ⟨D, 0, none⟩))), Value.nilIface] 98)).alloc (.cells #[Value.string a, Value.string d] 148)).alloc (.cells #[Value.string a, Value.string d] 148)) w.heap.size 98 #[Value.string ty, (Value.iface 155 (.pointer (some ⟨D, 0, none⟩))), Value.nilIface] := Blk.alloc (Blk.alloc (Blk.new w 98 #[Value.string ty, (Value.iface 155 (.pointer (some ⟨D, 0, none⟩))), Value.nilIface]) (.cells #[Value.string a, Value.string d] 148)) (.cells #[Value.string a, Value.string d] 148)
  have hM0 : Blk (((w.alloc (.cells #[Value.string ty, (Value.iface 155 (.pointer (some ⟨D, 0, none⟩))), Value.nilIface] 98)).alloc (.cells #[Value.string a, Value.string d] 148)).alloc (.cells #[Value.string a, Value.string d] 148)) (w.heap.size + 1) 148 #[Value.string a, Value.string d] := by
    have h := Blk.alloc (Blk.new (w.alloc (.cells #[Value.string ty, (Value.iface 155 (.pointer (some ⟨D, 0, none⟩))), Value.nilIface] 98)) 148 #[Value.string a, Value.string d]) (.cells #[Value.string a, Value.string d] 148)
    rw [World.size_alloc] at h
    exact h
  have HP := Lib.hid hp
  clear hp
  go_enter Tryz.func111, Tryz.ntmps111
  go_wp2_with (fail)
  refine (HP.out _ hb0).mono ?_
  rintro e w1 ⟨v1, rfl, hc1⟩
  have hb1 := hb0.trans (hc1.mono hb0.size)
  have hB1 := hB0.later hc1
  have hM1 := hM0.later hc1
  clear hc1 hB0 hb0 hM0
  have c0 := hB1.at_ 0 rfl
  have c1 := hB1.at_ 1 rfl
  have c2 := hB1.at_ 2 rfl
  have m0 := hM1.at_ 0 rfl
  have m1 := hM1.at_ 1 rfl
  go_wp2
  go_ret
  exact ⟨_, rfl, hb1, .inl ⟨rfl, rfl⟩⟩
set_option maxRecDepth 100000 in
set_option maxHeartbeats 1000000 in
theorem check111_yes_yes (ty : ByteArray) (a d : ByteArray) (w : World) (D : Nat) (hp : ∀ W, Below w.heap.size w W → Calls Tryz.prog 245 #[.pointer (some ⟨D, 0, none⟩), (.agg #[.string a, .string d])] W (TellsV true W)) (E : Nat) (hx : ∀ W, Below w.heap.size w W → Calls Tryz.prog 245 #[.pointer (some ⟨E, 0, none⟩), (.agg #[.string a, .string d])] W (TellsV true W)) (hty : ty.size ≤ 100) :
    Calls Tryz.prog 111 #[.agg #[.string ty, (.iface 155 (.pointer (some ⟨D, 0, none⟩))), (.iface 155 (.pointer (some ⟨E, 0, none⟩)))], .agg #[.string a, .string d], .agg #[.string a, .string d]] w (Says true w) := by
  have hm := meth245
  have hb0 : Below w.heap.size w (((w.alloc (.cells #[Value.string ty, (Value.iface 155 (.pointer (some ⟨D, 0, none⟩))), (Value.iface 155 (.pointer (some ⟨E, 0, none⟩)))] 98)).alloc (.cells #[Value.string a, Value.string d] 148)).alloc (.cells #[Value.string a, Value.string d] 148)) := Below.alloc (Below.alloc ((Below.refl w.heap.size w).alloc (Nat.le_refl _) (.cells #[Value.string ty, (Value.iface 155 (.pointer (some ⟨D, 0, none⟩))), (Value.iface 155 (.pointer (some ⟨E, 0, none⟩)))] 98)) (by simp only [World.size_alloc]; omega) (.cells #[Value.string a, Value.string d] 148)) (by simp only [World.size_alloc]; omega) (.cells #[Value.string a, Value.string d] 148)
  have hB0 : Blk (((w.alloc (.cells #[Value.string ty, (Value.iface 155 (.pointer (some ⟨D, 0, none⟩))), (Value.iface 155 (.pointer (some ⟨E, 0, none⟩)))] 98)).alloc (.cells #[Value.string a, Value.string d] 148)).alloc (.cells #[Value.string a, Value.string d] 148)) w.heap.size 98 #[Value.string ty, (Value.iface 155 (.pointer (some ⟨D, 0, none⟩))), (Value.iface 155 (.pointer (some ⟨E, 0, none⟩)))] := Blk.alloc (Blk.alloc (Blk.new w 98 #[Value.string ty, (Value.iface 155 (.pointer (some ⟨D, 0, none⟩))), (Value.iface 155 (.pointer (some ⟨E, 0, none⟩)))]) (.cells #[Value.string a, Value.string d] 148)) (.cells #[Value.string a, Value.string d] 148)
  have hM0 : Blk (((w.alloc (.cells #[Value.string ty, (Value.iface 155 (.pointer (some ⟨D, 0, none⟩))), (Value.iface 155 (.pointer (some ⟨E, 0, none⟩)))] 98)).alloc (.cells #[Value.string a, Value.string d] 148)).alloc (.cells #[Value.string a, Value.string d] 148)) (w.heap.size + 1) 148 #[Value.string a, Value.string d] := by
    have h := Blk.alloc (Blk.new (w.alloc (.cells #[Value.string ty, (Value.iface 155 (.pointer (some ⟨D, 0, none⟩))), (Value.iface 155 (.pointer (some ⟨E, 0, none⟩)))] 98)) 148 #[Value.string a, Value.string d]) (.cells #[Value.string a, Value.string d] 148)
    rw [World.size_alloc] at h
    exact h
  have HP := Lib.hid hp
  clear hp
  have HX := Lib.hid hx
  clear hx
  go_enter Tryz.func111, Tryz.ntmps111
  go_wp2_with (fail)
  refine (HP.out _ hb0).mono ?_
  rintro e w1 ⟨v1, rfl, hc1⟩
  have hb1 := hb0.trans (hc1.mono hb0.size)
  have hB1 := hB0.later hc1
  have hM1 := hM0.later hc1
  clear hc1 hB0 hb0 hM0
  have c0 := hB1.at_ 0 rfl
  have c1 := hB1.at_ 1 rfl
  have c2 := hB1.at_ 2 rfl
  have m0 := hM1.at_ 0 rfl
  have m1 := hM1.at_ 1 rfl
  go_wp2_with (fail)
  refine (HX.out _ hb1).mono ?_
  rintro e w2 ⟨v2, rfl, hc2⟩
  have hb2 := hb1.trans (hc2.mono hb1.size)
  have hB2 := hB1.later hc2
  have hM2 := hM1.later hc2
  clear c0 c1 c2 m0 m1
  clear hc2 hB1 hb1 hM1
  have c0 := hB2.at_ 0 rfl
  have c1 := hB2.at_ 1 rfl
  have c2 := hB2.at_ 2 rfl
  have m0 := hM2.at_ 0 rfl
  have m1 := hM2.at_ 1 rfl
  go_wp2_with (first | (go_at_call 108; refine (errNew_calls _ _).mono ?_; rintro e w9 ⟨rfl, rfl⟩))
  go_ret
  exact ⟨_, rfl, hb2.alloc hb2.size _, .inr ⟨rfl, ty, hty, .inr ⟨_, rfl, Blk.new _ _ _⟩⟩⟩
set_option maxRecDepth 100000 in
set_option maxHeartbeats 1000000 in
theorem check111_yes_no (ty : ByteArray) (a d : ByteArray) (w : World) (D : Nat) (hp : ∀ W, Below w.heap.size w W → Calls Tryz.prog 245 #[.pointer (some ⟨D, 0, none⟩), (.agg #[.string a, .string d])] W (TellsV true W)) (E : Nat) (hx : ∀ W, Below w.heap.size w W → Calls Tryz.prog 245 #[.pointer (some ⟨E, 0, none⟩), (.agg #[.string a, .string d])] W (TellsV false W)) :
    Calls Tryz.prog 111 #[.agg #[.string ty, (.iface 155 (.pointer (some ⟨D, 0, none⟩))), (.iface 155 (.pointer (some ⟨E, 0, none⟩)))], .agg #[.string a, .string d], .agg #[.string a, .string d]] w (Says false w) := by
  have hm := meth245
  have hb0 : Below w.heap.size w (((w.alloc (.cells #[Value.string ty, (Value.iface 155 (.pointer (some ⟨D, 0, none⟩))), (Value.iface 155 (.pointer (some ⟨E, 0, none⟩)))] 98)).alloc (.cells #[Value.string a, Value.string d] 148)).alloc (.cells #[Value.string a, Value.string d] 148)) := Below.alloc (Below.alloc ((Below.refl w.heap.size w).alloc (Nat.le_refl _) (.cells #[Value.string ty, (Value.iface 155 (.pointer (some ⟨D, 0, none⟩))), (Value.iface 155 (.pointer (some ⟨E, 0, none⟩)))] 98)) (by simp only [World.size_alloc]; omega) (.cells #[Value.string a, Value.string d] 148)) (by simp only [World.size_alloc]; omega) (.cells #[Value.string a, Value.string d] 148)
  have hB0 : Blk (((w.alloc (.cells #[Value.string ty, (Value.iface 155 (.pointer (some ⟨D, 0, none⟩))), (Value.iface 155 (.pointer (some ⟨E, 0, none⟩)))] 98)).alloc (.cells #[Value.string a, Value.string d] 148)).alloc (.cells #[Value.string a, Value.string d] 148)) w.heap.size 98 #[Value.string ty, (Value.iface 155 (.pointer (some ⟨D, 0, none⟩))), (Value.iface 155 (.pointer (some ⟨E, 0, none⟩)))] := Blk.alloc (Blk.alloc (Blk.new w 98 #[Value.string ty, (Value.iface 155 (.pointer (some ⟨D, 0, none⟩))), (Value.iface 155 (.pointer (some ⟨E, 0, none⟩)))]) (.cells #[Value.string a, Value.string d] 148)) (.cells #[Value.string a, Value.string d] 148)
  have hM0 : Blk (((w.alloc (.cells #[Value.string ty, (Value.iface 155 (.pointer (some ⟨D, 0, none⟩))), (Value.iface 155 (.pointer (some ⟨E, 0, none⟩)))] 98)).alloc (.cells #[Value.string a, Value.string d] 148)).alloc (.cells #[Value.string a, Value.string d] 148)) (w.heap.size + 1) 148 #[Value.string a, Value.string d] := by
    have h := Blk.alloc (Blk.new (w.alloc (.cells #[Value.string ty, (Value.iface 155 (.pointer (some ⟨D, 0, none⟩))), (Value.iface 155 (.pointer (some ⟨E, 0, none⟩)))] 98)) 148 #[Value.string a, Value.string d]) (.cells #[Value.string a, Value.string d] 148)
    rw [World.size_alloc] at h
    exact h
  have HP := Lib.hid hp
  clear hp
  have HX := Lib.hid hx
  clear hx
  go_enter Tryz.func111, Tryz.ntmps111
  go_wp2_with (fail)
  refine (HP.out _ hb0).mono ?_
  rintro e w1 ⟨v1, rfl, hc1⟩
  have hb1 := hb0.trans (hc1.mono hb0.size)
  have hB1 := hB0.later hc1
  have hM1 := hM0.later hc1
  clear hc1 hB0 hb0 hM0
  have c0 := hB1.at_ 0 rfl
  have c1 := hB1.at_ 1 rfl
  have c2 := hB1.at_ 2 rfl
  have m0 := hM1.at_ 0 rfl
  have m1 := hM1.at_ 1 rfl
  go_wp2_with (fail)
  refine (HX.out _ hb1).mono ?_
  rintro e w2 ⟨v2, rfl, hc2⟩
  have hb2 := hb1.trans (hc2.mono hb1.size)
  have hB2 := hB1.later hc2
  have hM2 := hM1.later hc2
  clear c0 c1 c2 m0 m1
  clear hc2 hB1 hb1 hM1
  have c0 := hB2.at_ 0 rfl
  have c1 := hB2.at_ 1 rfl
  have c2 := hB2.at_ 2 rfl
  have m0 := hM2.at_ 0 rfl
  have m1 := hM2.at_ 1 rfl
  go_wp2
  go_ret
  exact ⟨_, rfl, hb2, .inl ⟨rfl, rfl⟩⟩
set_option maxRecDepth 100000 in
set_option maxHeartbeats 1000000 in
theorem check111_no_nil (ty : ByteArray) (a d : ByteArray) (w : World) (D : Nat) (hp : ∀ W, Below w.heap.size w W → Calls Tryz.prog 245 #[.pointer (some ⟨D, 0, none⟩), (.agg #[.string a, .string d])] W (TellsV false W)) (vx : Value) (hty : ty.size ≤ 100) :
    Calls Tryz.prog 111 #[.agg #[.string ty, (.iface 155 (.pointer (some ⟨D, 0, none⟩))), vx], .agg #[.string a, .string d], .agg #[.string a, .string d]] w (Says true w) := by
  have hm := meth245
  have hb0 : Below w.heap.size w (((w.alloc (.cells #[Value.string ty, (Value.iface 155 (.pointer (some ⟨D, 0, none⟩))), vx] 98)).alloc (.cells #[Value.string a, Value.string d] 148)).alloc (.cells #[Value.string a, Value.string d] 148)) := Below.alloc (Below.alloc ((Below.refl w.heap.size w).alloc (Nat.le_refl _) (.cells #[Value.string ty, (Value.iface 155 (.pointer (some ⟨D, 0, none⟩))), vx] 98)) (by simp only [World.size_alloc]; omega) (.cells #[Value.string a, Value.string d] 148)) (by simp only [World.size_alloc]; omega) (.cells #[Value.string a, Value.string d] 148)
  have hB0 : Blk (((w.alloc (.cells #[Value.string ty, (Value.iface 155 (.pointer (some ⟨D, 0, none⟩))), vx] 98)).alloc (.cells #[Value.string a, Value.string d] 148)).alloc (.cells #[Value.string a, Value.string d] 148)) w.heap.size 98 #[Value.string ty, (Value.iface 155 (.pointer (some ⟨D, 0, none⟩))), vx] := Blk.alloc (Blk.alloc (Blk.new w 98 #[Value.string ty, (Value.iface 155 (.pointer (some ⟨D, 0, none⟩))), vx]) (.cells #[Value.string a, Value.string d] 148)) (.cells #[Value.string a, Value.string d] 148)
  have hM0 : Blk (((w.alloc (.cells #[Value.string ty, (Value.iface 155 (.pointer (some ⟨D, 0, none⟩))), vx] 98)).alloc (.cells #[Value.string a, Value.string d] 148)).alloc (.cells #[Value.string a, Value.string d] 148)) (w.heap.size + 1) 148 #[Value.string a, Value.string d] := by
    have h := Blk.alloc (Blk.new (w.alloc (.cells #[Value.string ty, (Value.iface 155 (.pointer (some ⟨D, 0, none⟩))), vx] 98)) 148 #[Value.string a, Value.string d]) (.cells #[Value.string a, Value.string d] 148)
    rw [World.size_alloc] at h
    exact h
  have HP := Lib.hid hp
  clear hp
  go_enter Tryz.func111, Tryz.ntmps111
  go_wp2_with (fail)
  refine (HP.out _ hb0).mono ?_
  rintro e w1 ⟨v1, rfl, hc1⟩
  have hb1 := hb0.trans (hc1.mono hb0.size)
  have hB1 := hB0.later hc1
  have hM1 := hM0.later hc1
  clear hc1 hB0 hb0 hM0
  have c0 := hB1.at_ 0 rfl
  have c1 := hB1.at_ 1 rfl
  have c2 := hB1.at_ 2 rfl
  have m0 := hM1.at_ 0 rfl
  have m1 := hM1.at_ 1 rfl
  go_wp2_with (first | (go_at_call 108; refine (errNew_calls _ _).mono ?_; rintro e w9 ⟨rfl, rfl⟩))
  go_ret
  exact ⟨_, rfl, hb1.alloc hb1.size _, .inr ⟨rfl, ty, hty, .inl ⟨_, rfl, Blk.new _ _ _⟩⟩⟩
/-- checkConstraints (111): whether a name is refused. -/
theorem check111_calls (ty : ByteArray) (a d : ByteArray) (vp vx : Value) (p x : Option Bool) (w : World) (hp : Asked 155 245 w vp (.agg #[.string a, .string d]) p) (hx : Asked 155 245 w vx (.agg #[.string a, .string d]) x) (hty : ty.size ≤ 100) :
    Calls Tryz.prog 111 #[.agg #[.string ty, vp, vx], .agg #[.string a, .string d], .agg #[.string a, .string d]] w (Says (ruledOut p x) w) := by
  rcases hp with ⟨rfl, rfl⟩ | ⟨D, bp, rfl, rfl, hp⟩
  · rcases hx with ⟨rfl, rfl⟩ | ⟨E, bx, rfl, rfl, hx⟩
    · exact check111_nil_nil ty a d w
    · cases bx
      · exact check111_nil_no ty a d w E hx
      · exact check111_nil_yes ty a d w E hx hty
  · cases bp
    · exact check111_no_nil ty a d w D hp vx hty
    · rcases hx with ⟨rfl, rfl⟩ | ⟨E, bx, rfl, rfl, hx⟩
      · exact check111_yes_nil ty a d w D hp
      · cases bx
        · exact check111_yes_no ty a d w D hp E hx
        · exact check111_yes_yes ty a d w D hp E hx hty
end Go.Proofs.YtblabjfjhlablaaGreatDoor
/- The walk of the query of mail: a mailbox of the list, or its domain meets a constraint. -/
namespace Go.Proofs.YtblabjfjhlablaaGreatDoor
open Go.RowKit Nc Go.Maps
set_option maxRecDepth 100000 in
set_option maxHeartbeats 2000000 in
theorem mailQuery_hit (E B n : Nat) (u : Value) (a d : ByteArray) (D : DataW Unit) (w : World) (hE : Blk w E 157 #[u, .map (some B)]) (hmap : w.ownsMap Tryz.prog 148 unitElem B n D) (h0 : 0 < Maps.size D) (ha : a.size ≤ 1000000) (hd : d.size ≤ 1000000)
    (kl : Lit) (hkl : keyOf Tryz.prog 148 (.agg #[.string a, .string d]) = some kl) (hq : Maps.has D kl = true) :
    Calls Tryz.prog 245 #[.pointer (some ⟨E, 0, none⟩), .agg #[.string a, .string d]] w (TellsV true w) := by
  have hb1 : Below w.heap.size w (w.alloc (.cells #[.string a, .string d] 148)) := (Below.refl _ _).alloc (Nat.le_refl _) _
  have hM := Blk.new w 148 #[.string a, .string d]
  have hmap1 := hmap.alloc (.cells #[.string a, .string d] 148)
  have hE1 := hE.later hb1
  have z := zero154
  obtain ⟨v1, p1, r1, e1⟩ := World.ownsMap.look_ok (t := 152) hmap1.drew law148 Tryz.underlying152 (zero154 _) unitElem_mk hkl
  obtain ⟨v2, p2, r2, e2⟩ := World.ownsMap.look_ok (t := 152) (hmap1.alloc (.cells #[] 154)).drew law148 Tryz.underlying152 (zero154 _) unitElem_mk hkl
  obtain ⟨rfl, _⟩ := unitElem_inv e1
  obtain ⟨rfl, _⟩ := unitElem_inv e2
  rw [hq] at r1 r2
  have hpos : decide (0 < Maps.size D) = true := decide_eq_true h0
  have hlen := World.ownsMap.len hmap1 Tryz.underlying152 3
  have e1' := hE1.at_ 1 rfl
  have f1 := ((hE1.alloc (.cells #[] 154)).drew).at_ 1 rfl
  have n0 := ((hM.alloc (.cells #[] 154)).drew).at_ 0 rfl
  have n1 := ((hM.alloc (.cells #[] 154)).drew).at_ 1 rfl
  have m0 := hM.at_ 0 rfl
  have m1 := hM.at_ 1 rfl
  have hb2 := (hb1.alloc hb1.size (.cells #[] 154)).drew
  clear e1 e2 hq hkl hE hmap
  go_enter Tryz.func245, Tryz.ntmps245
  go_wp2
  go_region
  all_goals (go_wp2; go_ret2; exact ⟨_, rfl, hb2⟩)
/-- What is left where no mailbox of the list is met: the answer of the constraints of names. -/
def TailOk (u : Value) (d : ByteArray) (w : World) (b : Bool) : Prop := (u = .nilIface ∧ b = false) ∨ ∃ D : Nat, u = .iface 131 (.pointer (some ⟨D, 0, none⟩)) ∧ ∀ W, Below w.heap.size w W → Calls Tryz.prog 240 #[.pointer (some ⟨D, 0, none⟩), .string d] W (TellsV b W)
set_option maxRecDepth 100000 in
set_option maxHeartbeats 2000000 in
theorem mailQuery_none (E B n : Nat) (u : Value) (a d : ByteArray) (D : DataW Unit) (w : World) (hE : Blk w E 157 #[u, .map (some B)]) (hmap : w.ownsMap Tryz.prog 148 unitElem B n D) (h0 : Maps.size D = 0) (b : Bool) (ht : TailOk u d w b) :
    Calls Tryz.prog 245 #[.pointer (some ⟨E, 0, none⟩), .agg #[.string a, .string d]] w (TellsV b w) := by
  have hb1 : Below w.heap.size w (w.alloc (.cells #[.string a, .string d] 148)) := (Below.refl _ _).alloc (Nat.le_refl _) _
  have hM := Blk.new w 148 #[.string a, .string d]
  have hmap1 := hmap.alloc (.cells #[.string a, .string d] 148)
  have hE1 := hE.later hb1
  have hlen := World.ownsMap.len hmap1 Tryz.underlying152 3
  rw [h0] at hlen
  have e0 := hE1.at_ 0 rfl
  have e1 := hE1.at_ 1 rfl
  have m1 := hM.at_ 1 rfl
  clear hmap h0
  rcases ht with ⟨rfl, rfl⟩ | ⟨D', rfl, ht⟩
  · go_enter Tryz.func245, Tryz.ntmps245
    go_wp2
    go_ret2
    exact ⟨_, rfl, hb1⟩
  · have hm := meth240
    have HT := Lib.hid (ht _ hb1.drew)
    clear ht
    go_enter Tryz.func245, Tryz.ntmps245
    go_wp2
    go_region_held3 (fun W => W.cell? ⟨E, 0, none⟩ = some (.iface 131 (.pointer (some ⟨D', 0, none⟩))) ∧ W.cell? ⟨w.heap.size, 1, none⟩ = some (.string d))
      (first | exact ⟨hE1.drew.at_ 0 rfl, hM.drew.at_ 1 rfl⟩ | exact ⟨(hE1.drew.later q1).at_ 0 rfl, (hM.drew.later q1).at_ 1 rfl⟩)
      (first | (go_at_call 240; (with_reducible refine HT.out.mono ?_); rintro x u1 ⟨c, rfl, q1⟩))
    go_wp2
    go_ret2
    exact ⟨_, rfl, hb1.drew.trans (q1.mono hb1.drew.size)⟩
set_option maxRecDepth 100000 in
set_option maxHeartbeats 2000000 in
theorem mailQuery_miss (E B n : Nat) (u : Value) (a d : ByteArray) (D : DataW Unit) (w : World) (hE : Blk w E 157 #[u, .map (some B)]) (hmap : w.ownsMap Tryz.prog 148 unitElem B n D) (h0 : 0 < Maps.size D)
    (kl : Lit) (hkl : keyOf Tryz.prog 148 (.agg #[.string a, .string d]) = some kl) (hq : Maps.has D kl = false) (b : Bool) (ht : TailOk u d w b) :
    Calls Tryz.prog 245 #[.pointer (some ⟨E, 0, none⟩), .agg #[.string a, .string d]] w (TellsV b w) := by
  have hb1 : Below w.heap.size w (w.alloc (.cells #[.string a, .string d] 148)) := (Below.refl _ _).alloc (Nat.le_refl _) _
  have hM := Blk.new w 148 #[.string a, .string d]
  have hmap1 := hmap.alloc (.cells #[.string a, .string d] 148)
  have hE1 := hE.later hb1
  have z := zero154
  obtain ⟨v1, p1, r1, e1⟩ := World.ownsMap.look_ok (t := 152) hmap1.drew law148 Tryz.underlying152 (zero154 _) unitElem_mk hkl
  obtain ⟨v2, p2, r2, e2⟩ := World.ownsMap.look_ok (t := 152) (hmap1.alloc (.cells #[] 154)).drew law148 Tryz.underlying152 (zero154 _) unitElem_mk hkl
  obtain ⟨rfl, _⟩ := unitElem_inv e1
  obtain ⟨rfl, _⟩ := unitElem_inv e2
  rw [hq] at r1 r2
  have hpos : decide (0 < Maps.size D) = true := decide_eq_true h0
  have hlen := World.ownsMap.len hmap1 Tryz.underlying152 3
  have e1' := hE1.at_ 1 rfl
  have hE2 := (hE1.alloc (.cells #[] 154)).drew
  have hM2 := (hM.alloc (.cells #[] 154)).drew
  have f0 := hE2.at_ 0 rfl
  have f1 := hE2.at_ 1 rfl
  have n0 := hM2.at_ 0 rfl
  have n1 := hM2.at_ 1 rfl
  have m0 := hM.at_ 0 rfl
  have m1 := hM.at_ 1 rfl
  have hb2 := (hb1.alloc hb1.size (.cells #[] 154)).drew
  clear e1 e2 hq hkl hmap hE
  rcases ht with ⟨rfl, rfl⟩ | ⟨D', rfl, ht⟩
  · go_enter Tryz.func245, Tryz.ntmps245
    go_wp2
    go_region
    all_goals go_wp2
    all_goals go_ret2
    all_goals exact ⟨_, rfl, hb2⟩
  · have hm := meth240
    have HT := Lib.hid (ht _ hb2.drew)
    clear ht
    go_enter Tryz.func245, Tryz.ntmps245
    go_wp2
    go_region
    all_goals (
      go_wp2
      go_region_held3 (fun W => W.cell? ⟨E, 0, none⟩ = some (.iface 131 (.pointer (some ⟨D', 0, none⟩))) ∧ W.cell? ⟨w.heap.size, 1, none⟩ = some (.string d))
        (first | exact ⟨hE2.drew.at_ 0 rfl, hM2.drew.at_ 1 rfl⟩ | exact ⟨(hE2.drew.later q1).at_ 0 rfl, (hM2.drew.later q1).at_ 1 rfl⟩)
        (first | (go_at_call 240; (with_reducible refine HT.out.mono ?_); rintro x u1 ⟨c, rfl, q1⟩))
      go_wp2
      go_ret2
      exact ⟨_, rfl, hb2.drew.trans (q1.mono hb2.drew.size)⟩)
theorem tail_of {w : World} {u : Value} {d : ByteArray} {l : List ByteArray} (h : Asked 131 240 w u (.string d) (askDns l d)) : TailOk u d w (meets l d) := by
  unfold askDns at h
  by_cases hl : l = []
  · subst hl
    rcases h with ⟨h, _⟩ | ⟨D, bb, _, h, _⟩
    · exact .inl ⟨h, rfl⟩
    · simp at h
  · rw [if_neg hl] at h
    rcases h with ⟨_, h⟩ | ⟨D, bb, h1, h2, h3⟩
    · cases h
    · obtain rfl := Option.some.inj h2
      exact .inr ⟨D, h1, h3⟩
/-- What constraints of mail say of a mailbox: nothing where there are none. -/
def askMail (l : List ByteArray) (a d : ByteArray) : Option Bool := if l = [] then none else some (boxMeets l a d)
theorem IsMail.asked {w : World} {l : List ByteArray} {perm : Bool} {v : Value} (h : IsMail w l perm v) (a d : ByteArray) (ha : a.size ≤ 1000000) (hd : FitName d) : Asked 155 245 w v (.agg #[.string a, .string d]) (askMail l a d) := by
  rcases h with ⟨rfl, rfl⟩ | ⟨E, rfl, hl, u, B, n, D, h3, h4, h5, h6⟩
  · exact .inl ⟨rfl, by simp [askMail]⟩
  · refine .inr ⟨E, boxMeets l a d, rfl, by simp [askMail, hl], fun W hW => ?_⟩
    have hd2 : d.size ≤ 1000000 := by have := hd.size; omega
    have k3 := h3.later hW
    have k4 := h4.kept (row := none) ⟨hW.os, hW.tape, hW.output, hW.size, fun j hj _ => hW.block j hj⟩ (by simp)
    have k6 := tail_of ((h6.later hW).asked d hd)
    obtain ⟨kl, hkl⟩ := key148 a d ha hd2
    have hs := h5 a d kl hkl
    rcases Nat.eq_zero_or_pos (Maps.size D) with h0 | h0
    · have hb : boxMeets l a d = meets (doms l) d := by unfold boxMeets; rw [h5.none_ k4.isMap h0 a d ha hd2]; rfl
      rw [hb]
      exact mailQuery_none E B n u a d D W k3 k4 h0 _ k6
    · cases hi : isBox l a d with
      | true =>
        have hb : boxMeets l a d = true := by unfold boxMeets; rw [hi]; rfl
        rw [hb]
        exact mailQuery_hit E B n u a d D W k3 k4 h0 ha hd2 kl hkl (hs.trans hi)
      | false =>
        have hb : boxMeets l a d = meets (doms l) d := by unfold boxMeets; rw [hi]; rfl
        rw [hb]
        exact mailQuery_miss E B n u a d D W k3 k4 h0 kl hkl (hs.trans hi) _ k6
end Go.Proofs.YtblabjfjhlablaaGreatDoor
/- The walk of parseMailboxes over mailboxes that parse: each with its domain in lower case. -/
namespace Go.Proofs.YtblabjfjhlablaaGreatDoor
open Go.RowKit Nc
/-- What a mailbox is parsed to, its domain in lower case. -/
def boxOf (s : ByteArray) : ByteArray × ByteArray := ((parseS s).map fun x => ((⟨x.1.toArray⟩ : ByteArray), lowS ⟨x.2.toArray⟩)).getD (ByteArray.empty, ByteArray.empty)
/-- Pairs as cells. -/
def cells2 (f : ByteArray → ByteArray × ByteArray) (l : List ByteArray) : List Value := l.flatMap fun s => [.string (f s).1, .string (f s).2]
theorem cells2_len (f : ByteArray → ByteArray × ByteArray) : ∀ l : List ByteArray, (cells2 f l).length = l.length * 2
  | [] => rfl
  | s :: l => by
    have := cells2_len f l
    unfold cells2 at this ⊢
    rw [List.flatMap_cons, List.length_append, this]
    simp; omega
theorem cells2_at (f : ByteArray → ByteArray × ByteArray) : ∀ (l : List ByteArray) (k : Nat) (hk : k < l.length), (cells2 f l)[k * 2]? = some (.string (f l[k]).1) ∧ (cells2 f l)[k * 2 + 1]? = some (.string (f l[k]).2)
  | [], k, hk => by simp at hk
  | s :: l, 0, _ => ⟨rfl, rfl⟩
  | s :: l, k + 1, hk => by
    have := cells2_at f l k (by simpa using hk)
    have e : cells2 f (s :: l) = [.string (f s).1, .string (f s).2] ++ cells2 f l := rfl
    rw [e, List.getElem?_append_right (by simp; omega), List.getElem?_append_right (by simp; omega)]
    simpa [show (k + 1) * 2 - 2 = k * 2 by omega, show (k + 1) * 2 + 1 - 2 = k * 2 + 1 by omega] using this
theorem cells2_snoc (f : ByteArray → ByteArray × ByteArray) (l : List ByteArray) (s : ByteArray) : cells2 f (l ++ [s]) = cells2 f l ++ [.string (f s).1, .string (f s).2] := by
  simp [cells2]
/-- A row of pairs in memory. -/
def Row2 (t : TypeId) (f : ByteArray → ByteArray × ByteArray) (w : World) (l : List ByteArray) (v : Value) : Prop := Reads2 w t v l.length (fun k => .string (f (l.getD k ByteArray.empty)).1) (fun k => .string (f (l.getD k ByteArray.empty)).2)
theorem Row2.of_own {t : TypeId} {f : ByteArray → ByteArray × ByteArray} {w : World} {base : Nat} {v : Value} {l : List ByteArray} (h : w.ownsRow base t 2 v l.length (cells2 f l)) : Row2 t f w l v := by
  obtain ⟨h1, h2⟩ := h
  rcases h2 with ⟨rfl, h2⟩ | ⟨g, cap, cur, rfl, _, hh, hn, hm, hs, ht⟩
  · have h3 := cells2_len f l
    rw [h2] at h3
    have : l = [] := List.eq_nil_of_length_eq_zero (by simp at h3; omega)
    subst this
    exact ⟨none, 0, rfl, fun h => absurd h (by simp)⟩
  · refine ⟨_, cap, rfl, fun _ => ⟨g, cur, rfl, hh, fun k hk => ?_⟩⟩
    obtain ⟨p1, p2⟩ := cells2_at f l k hk
    have e : l.getD k ByteArray.empty = l[k] := by simp [hk]
    show cur[k * 2]? = some (.string (f (l.getD k ByteArray.empty)).1) ∧ cur[k * 2 + 1]? = some (.string (f (l.getD k ByteArray.empty)).2)
    rw [e]
    rw [← ht, List.getElem?_take, if_pos (by omega)] at p1 p2
    exact ⟨by simpa using p1, by simpa using p2⟩
def MailRow (w : World) (l : List ByteArray) (v : Value) : Prop := Row2 148 boxOf w l v
set_option maxRecDepth 100000 in
set_option maxHeartbeats 2000000 in
theorem parseMails_calls (l : List ByteArray) (A : Option Addr) (c : Nat) (w : World) (h : ∀ k, (hk : k < l.length) → ∃ ad, A = some ad ∧ w.cell? (ad.add k) = some (.string l[k])) (hl : l.length ≤ 1000000) (hok : ∀ s ∈ l, s.size ≤ 1000 ∧ ∃ a d, parseS s = some (a, d)) :
    Calls Tryz.prog 76 #[.slice A l.length c] w (Parses (fun W u => MailRow W l u) w) := by
  obtain ⟨i0, hi0, hz0, hz1, hz2⟩ := info_parts box_info
  have H := Lib.hid h
  have HK := Lib.hid hok
  clear h hok
  go_enter Tryz.func76, Tryz.ntmps76
  go_wp2_with (at_make; refine wpList_make_own _ rfl _ _ 103 rfl w.heap.size 148 i0 _ 2 Tryz.underlying103 hi0 hz0 hz1 _ _ _ l.length rfl rfl rfl (by rw [hz2]; omega) (by unfold maxLen; omega) (Nat.le_refl _) ?_; intro w1 o1 g1)
  have b1 : Below w.heap.size w w1 := (Below.refl _ _).grown g1 (Nat.le_refl _) (by simp)
  clear g1
  go_loopw [4, 14] (fun o i wr => ∃ k : Nat, i = .int .i64 k ∧ k ≤ l.length ∧ Below w.heap.size w wr ∧ wr.ownsRow w.heap.size 148 2 o k (cells2 boxOf (l.take k))) (fun _ i _ => l.length - (intOf i).toNat)
  case atStart => exact ⟨0, rfl, Nat.zero_le _, b1, by simpa [cells2] using o1⟩
  case round =>
    obtain ⟨k, rfl, hk, hbr, hown⟩ := hrel
    clear b1 o1
    by_cases hlt : k < l.length
    · obtain ⟨ad, rfl, cx0⟩ := H.out k hlt
      have cx := cell_keep hbr cx0
      clear cx0
      obtain ⟨hsz, a, d, hr⟩ := HK.out _ (List.getElem_mem hlt)
      have htake : l.take (k + 1) = l.take k ++ [l[k]] := List.take_succ_eq_append_getElem hlt
      have HT := Lib.hid htake
      generalize l[k] = s at *
      obtain ⟨f1, f2, f3⟩ := parseS_facts hr
      have e3 : s.data.toList.length = s.size := rfl
      have hbx : boxOf s = (⟨a.toArray⟩, lowS ⟨d.toArray⟩) := by unfold boxOf; rw [hr]; rfl
      have hasc : ∀ (j : Nat) (b : UInt8), (⟨d.toArray⟩ : ByteArray).data.toList[j]? = some b → b.toNat < 128 := fun j b hb => dnvL_ascii f1 b (by have := List.mem_of_getElem? hb; simpa using this)
      have sa : (⟨a.toArray⟩ : ByteArray).size ≤ 1000 := by show a.toArray.size ≤ 1000; simp; omega
      have sd : (⟨d.toArray⟩ : ByteArray).size ≤ 1000 := by show d.toArray.size ≤ 1000; simp; omega
      have TL := fun W => Tryz.strings_ToLower_ascii ⟨d.toArray⟩ W (by omega) hasc
      rw [lowS_eq] at TL
      have PS := Lib.hid (fun W => parse_calls s W (by omega))
      rw [hr] at PS
      have TLH := Lib.hid TL
      have HB := Lib.hid hbx
      clear TL hbx hasc f1 f2 f3 e3 hr htake sa sd
      generalize lowS ⟨d.toArray⟩ = ld at *
      go_wp2_with (fail)
      refine (PS.out _).mono ?_
      rintro e w2 ⟨hsay, b2⟩
      rcases hsay with ⟨hr, _⟩ | ⟨a', d', hr, rfl⟩
      · cases hr
      obtain ⟨rfl, rfl⟩ : a = a' ∧ d = d' := by simpa using hr
      generalize (⟨a.toArray⟩ : ByteArray) = la at *
      generalize (⟨d.toArray⟩ : ByteArray) = ud at *
      have hb2 := hbr.trans (b2.mono hbr.size)
      have hown2 := own_later hown b2
      clear hr PS b2 hbr hown cx
      have hb4 := hb2.alloc hb2.size (.cells #[.string la, .string ud] 148)
      have hown4 := hown2.alloc (.cells #[.string la, .string ud] 148)
      have hnew := Blk.new w2 148 #[.string la, .string ud]
      have HQ : Hid (∀ q, u4.ownBlock = some q → q < w2.heap.size) := fun q hq => (hown2.lt q hq).2
      have hg3 := hb2.size
      clear hb2 hown2
      go_wp2_with (fail)
      refine (TLH.out _).mono ?_
      rintro e w5 ⟨rfl, b5⟩
      have hb5 := hb4.trans (b5.mono hb4.size)
      have hown5 := own_later hown4 b5
      have hnew5 := hnew.later b5
      have c0 := hnew5.at_ 0 rfl
      have c1 := hnew5.at_ 1 rfl
      have ff := hnew5.frozen 1
      have hb6 := hb5.setCell (p := ⟨w2.heap.size, 1, none⟩) (by simp; omega) (.string ld)
      have hown6 := ownsRow_setCell_other hown5 (a := ⟨w2.heap.size, 1, none⟩) (fun e => by have := HQ.out _ e; simp at this) (.string ld)
      have hrd := two_reads (w5.setCell ⟨w2.heap.size, 1, none⟩ (.string ld)) 148 (.string la) (.string ld)
      have hsz5 : (w5.setCell ⟨w2.heap.size, 1, none⟩ (.string ld)).heap.size = w5.heap.size := by simp [World.setCell]
      rw [hsz5] at hrd
      have hb7 := hb6.alloc hb6.size (.cells #[.string la, .string ld] 148)
      have hown7 := hown6.alloc (.cells #[.string la, .string ld] 148)
      clear TLH hb5 hown5 hb4 hown4 hnew b5 HQ hown6 hb6 hsz5
      go_wp2_with (first
        | (at_builtin
           refine wpList_append_any _ rfl _ (.tmp 32) _ rfl w.heap.size 148 i0 _ 2 32 Tryz.underlying103 hi0 hz0 hz1 hz2 rfl (by omega) u4 k _ rfl hown7 (w5.heap.size + 1) (some ⟨w5.heap.size, 0, none⟩) 1 1 _ rfl hrd (by simp [Value.oneCell']) (by simp only [maxLen]; omega) (by omega) hb7.size ?_
           intro v1 w8 hown8 hg8 hat8))
      have hb8 : Below w.heap.size w w8 := hb7.grown hg8 hb7.size (fun q hq => (hown7.lt q hq).1)
      have hown9 : w8.ownsRow w.heap.size 148 2 v1 (k + 1) (cells2 boxOf (l.take (k + 1))) := by
        rw [HT.out, cells2_snoc, HB.out]
        exact hown8
      clear hown8 hg8 hat8 hown7 hrd hb7 HT HB
      go_wp2
      go_roundw
      case rel => exact ⟨k + 1, by go_num, by omega, hb8, hown9⟩
      case measure => simp only [intOf]; omega
    · obtain rfl : k = l.length := by omega
      have hr : MailRow wr l u4 := Row2.of_own (by simpa using hown)
      have HRW := Lib.hid hr
      clear hr hown
      go_wp2
      go_ret2
      exact ⟨_, rfl, HRW.out, hbr⟩
end Go.Proofs.YtblabjfjhlablaaGreatDoor
