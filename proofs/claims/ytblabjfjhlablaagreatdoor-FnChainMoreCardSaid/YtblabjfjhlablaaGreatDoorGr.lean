/- A chain of '||' over one byte in a region, walked without a split. -/
import Derived.Test.YtblabjfjhlablaaGreatDoorW2
namespace Go.Proofs.YtblabjfjhlablaaGreatDoor
open Go.RowKit
theorem put_same (a : Act) (t : Nat) (v : Value) (h : t < a.tmps.size) : (a.put (some t) v).tmps[t]? = some v := by
  show (a.tmps.setIfInBounds t v)[t]? = _
  rw [Array.getElem?_setIfInBounds, if_pos rfl, if_pos h]
theorem put_other (a : Act) (t s : Nat) (v : Value) (h : t ≠ s) : (a.put (some t) v).tmps[s]? = a.tmps[s]? := by
  show (a.tmps.setIfInBounds t v)[s]? = _
  rw [Array.getElem?_setIfInBounds, if_neg h]
theorem put_size (a : Act) (t : Nat) (v : Value) : (a.put (some t) v).tmps.size = a.tmps.size := Array.size_setIfInBounds
theorem eval_of {a : Act} {t : Nat} {v : Value} (h : a.tmps[t]? = some v) : a.eval (.tmp t) = v := by
  show a.tmps.getD t undef = v
  rw [Array.getD_eq_getD_getElem?, h]; rfl
section
variable {P : Program} {ops : Array Oper} {Q : Exit → Act → World → Prop} {rest : List Oper} {w : World}
/-- A guarded operation, its guard not known. -/
theorem wpList_gu {a : Act} {o : Oper} (i p : Nat) (bv b : Bool) (hg : o.guard = some (i, bv)) (hi : (ops[i]?).bind (·.dst) = some p) (hp : a.tmps[p]? = some (.bool b)) (v : Value)
    (hrun : b = bv → (execOp a.eval o).run P w = .ok (.value v) w) (h : wpList P ops Q rest (a.put o.dst (if b = bv then v else undef)) w) : wpList P ops Q (o :: rest) a w := by
  have hy : yielded ops a.tmps i = some b := by unfold yielded; rw [hi]; simp [hp]
  by_cases e : b = bv
  · rw [if_pos e] at h
    have hw : Region.wanted o (yielded ops a.tmps) = true := by simp [Region.wanted, hg, hy, e]
    simp only [wpList, hw, if_true]
    left
    unfold Oper.wp
    rw [hrun e]
    exact h
  · rw [if_neg e] at h
    refine wpList_skip ?_ h
    simp [Region.wanted, hg, hy, e]
theorem wpList_un {a : Act} {o : Oper} (hg : o.guard = none) (v : Value) (hrun : (execOp a.eval o).run P w = .ok (.value v) w) (h : wpList P ops Q rest (a.put o.dst v) w) : wpList P ops Q (o :: rest) a w := by
  refine wpList_plain hg fun K hK => ?_
  unfold Oper.wp
  rw [hrun]
  exact hK _ _ h
theorem run_move (e : Operand → Value) (x : Operand) (o : Oper) (h : o.op = .move x) : (execOp e o).run P w = .ok (.value (e x)) w := by simp [execOp, h]
end
theorem run_pick (e : Operand → Value) (P : Program) (w : World) (c a b : Operand) (o : Oper) (h : o.op = .pick c a b) (B : Bool) (hc : e c = .bool B) : (execOp e o).run P w = .ok (.value (if B then e a else e b)) w := by
  simp [execOp, h, hc]
  cases B <;> rfl
theorem run_eq8 (e : Operand → Value) (w : World) (x y : Operand) (o : Oper) (a b : Int) (h : o.op = .binOp .eql 5 x y 5) (hx : e x = .int .u8 a) (hy : e y = .int .u8 b) : (execOp e o).run Tryz.prog w = .ok (.value (.bool (a == b))) w := by
  simp only [execOp, h, hx, hy]
  go_simp
theorem run_le8 (e : Operand → Value) (w : World) (x y : Operand) (o : Oper) (a b : Int) (h : o.op = .binOp .leq 5 x y 5) (hx : e x = .int .u8 a) (hy : e y = .int .u8 b) : (execOp e o).run Tryz.prog w = .ok (.value (.bool (decide (a ≤ b)))) w := by
  simp only [execOp, h, hx, hy]
  go_simp
section
variable {ops : Array Oper} {Q : Exit → Act → World → Prop} {rest : List Oper} {w : World}
theorem skip_undef {P : Program} {a : Act} {o : Oper} (i p : Nat) (bv : Bool) (hg : o.guard = some (i, bv)) (hi : (ops[i]?).bind (·.dst) = some p) (hp : a.tmps[p]? = some undef)
    (h : wpList P ops Q rest (a.put o.dst undef) w) : wpList P ops Q (o :: rest) a w := by
  have hy : yielded ops a.tmps i = none := by unfold yielded; rw [hi]; simp [hp, undef]
  refine wpList_skip ?_ h
  simp [Region.wanted, hg, hy]
theorem run_assign (e : Operand → Value) (P : Program) (w : World) (x : Operand) (o : Oper) (h : o.op = .assign x) : (execOp e o).run P w = .ok (.value (e x)) w := by simp [execOp, h]
/-- lo ≤ c && c ≤ hi, at the chain's beginning -/
theorem fst_rng {a : Act} {o1 o2 o3 o4 o5 o6 o7 : Oper} (m i3 : Nat) (c lo hi : Int)
    (h1 : o1.guard = none) (d1 : o1.dst = some m) (e1 : o1.op = .move (.tmp 6))
    (h2 : o2.guard = none) (d2 : o2.dst = some (m + 1)) (e2 : o2.op = .binOp .leq 5 (.const (.int .u8 lo)) (.tmp m) 5)
    (h3 : o3.guard = none) (d3 : o3.dst = some (m + 2)) (e3 : o3.op = .move (.tmp (m + 1)))
    (h4 : o4.guard = some (i3, true)) (d4 : o4.dst = some (m + 3)) (e4 : o4.op = .move (.tmp 6))
    (h5 : o5.guard = some (i3, true)) (d5 : o5.dst = some (m + 4)) (e5 : o5.op = .binOp .leq 5 (.tmp (m + 3)) (.const (.int .u8 hi)) 5)
    (h6' : o6.guard = none) (d6 : o6.dst = some (m + 5)) (e6 : o6.op = .pick (.tmp (m + 2)) (.tmp (m + 4)) (.const (.bool false)))
    (h7 : o7.guard = none) (d7 : o7.dst = some (m + 6)) (e7 : o7.op = .move (.tmp (m + 5)))
    (hi3 : (ops[i3]?).bind (·.dst) = some (m + 2)) (h6 : a.tmps[6]? = some (.int .u8 c)) (hm : m + 6 < a.tmps.size) (h6m : 6 < m)
    (h : ∀ y0 y1 y2 y3 y4, wpList Tryz.prog ops Q rest (((((((a.put (some m) y0).put (some (m + 1)) y1).put (some (m + 2)) y2).put (some (m + 3)) y3).put (some (m + 4)) y4).put (some (m + 5)) (.bool (decide (lo ≤ c) && decide (c ≤ hi)))).put (some (m + 6)) (.bool (decide (lo ≤ c) && decide (c ≤ hi)))) w) :
    wpList Tryz.prog ops Q (o1 :: o2 :: o3 :: o4 :: o5 :: o6 :: o7 :: rest) a w := by
  have rn : ∀ {a : Act} {o : Oper} {rest : List Oper} (t : Nat) (v : Value), o.guard = none → o.dst = some t → (execOp a.eval o).run Tryz.prog w = .ok (.value v) w → wpList Tryz.prog ops Q rest (a.put (some t) v) w → wpList Tryz.prog ops Q (o :: rest) a w := fun {a o rest} t v hg hd hr h =>
    wpList_un hg v hr (by rw [hd]; exact h)
  refine rn m (.int .u8 c) h1 d1 (by rw [run_move _ _ _ e1, eval_of h6]) ?_
  have q0 := put_same a m (.int .u8 c) (by omega)
  refine rn (m + 1) (.bool (decide (lo ≤ c))) h2 d2 (run_le8 _ _ _ _ _ lo c e2 rfl (eval_of q0)) ?_
  have q1 := put_same (a.put (some m) (.int .u8 c)) (m + 1) (.bool (decide (lo ≤ c))) (by rw [put_size]; omega)
  refine rn (m + 2) (.bool (decide (lo ≤ c))) h3 d3 (by rw [run_move _ _ _ e3, eval_of q1]) ?_
  have q2 := put_same ((a.put (some m) (.int .u8 c)).put (some (m + 1)) (.bool (decide (lo ≤ c)))) (m + 2) (.bool (decide (lo ≤ c))) (by simp only [put_size]; omega)
  have s2 : (((a.put (some m) (.int .u8 c)).put (some (m + 1)) (.bool (decide (lo ≤ c)))).put (some (m + 2)) (.bool (decide (lo ≤ c)))).tmps[6]? = some (.int .u8 c) := by
    rw [put_other _ _ _ _ (by omega), put_other _ _ _ _ (by omega), put_other _ _ _ _ (by omega)]; exact h6
  refine wpList_gu i3 (m + 2) true (decide (lo ≤ c)) h4 hi3 q2 (.int .u8 c) (fun _ => by rw [run_move _ _ _ e4, eval_of s2]) ?_
  rw [d4]
  have q3 := put_same (((a.put (some m) (.int .u8 c)).put (some (m + 1)) (.bool (decide (lo ≤ c)))).put (some (m + 2)) (.bool (decide (lo ≤ c)))) (m + 3) (if decide (lo ≤ c) = true then .int .u8 c else undef) (by simp only [put_size]; omega)
  refine wpList_gu i3 (m + 2) true (decide (lo ≤ c)) h5 hi3 ((put_other _ _ _ _ (by omega)).trans q2) (.bool (decide (c ≤ hi))) (fun hb => by
    rw [if_pos hb] at q3
    refine run_le8 _ _ _ _ _ c hi e5 ?_ rfl
    rw [if_pos hb]
    exact eval_of q3) ?_
  rw [d5]
  have q4 := put_same ((((a.put (some m) (.int .u8 c)).put (some (m + 1)) (.bool (decide (lo ≤ c)))).put (some (m + 2)) (.bool (decide (lo ≤ c)))).put (some (m + 3)) (if decide (lo ≤ c) = true then .int .u8 c else undef)) (m + 4) (if decide (lo ≤ c) = true then .bool (decide (c ≤ hi)) else undef) (by simp only [put_size]; omega)
  have q5 := (put_other ((((a.put (some m) (.int .u8 c)).put (some (m + 1)) (.bool (decide (lo ≤ c)))).put (some (m + 2)) (.bool (decide (lo ≤ c)))).put (some (m + 3)) (if decide (lo ≤ c) = true then .int .u8 c else undef)) (m + 4) (m + 2) (if decide (lo ≤ c) = true then .bool (decide (c ≤ hi)) else undef) (by omega)).trans ((put_other _ (m + 3) (m + 2) _ (by omega)).trans q2)
  refine rn (m + 5) (.bool (decide (lo ≤ c) && decide (c ≤ hi))) h6' d6 (by
    rw [run_pick _ _ _ _ _ _ _ e6 (decide (lo ≤ c)) (eval_of q5), eval_of q4]
    cases decide (lo ≤ c) <;> rfl) ?_
  have q6 := put_same (((((a.put (some m) (.int .u8 c)).put (some (m + 1)) (.bool (decide (lo ≤ c)))).put (some (m + 2)) (.bool (decide (lo ≤ c)))).put (some (m + 3)) (if decide (lo ≤ c) = true then .int .u8 c else undef)).put (some (m + 4)) (if decide (lo ≤ c) = true then .bool (decide (c ≤ hi)) else undef)) (m + 5) (.bool (decide (lo ≤ c) && decide (c ≤ hi))) (by simp only [put_size]; omega)
  refine rn (m + 6) (.bool (decide (lo ≤ c) && decide (c ≤ hi))) h7 d7 (by rw [run_move _ _ _ e7, eval_of q6]) (h _ _ _ _ _)
/-- .. || c == K -/
theorem or_eq {a : Act} {o1 o2 o3 o4 : Oper} (m p i : Nat) (b : Bool) (c K : Int)
    (h1 : o1.guard = some (i, false)) (d1 : o1.dst = some m) (e1 : o1.op = .move (.tmp 6))
    (h2 : o2.guard = some (i, false)) (d2 : o2.dst = some (m + 1)) (e2 : o2.op = .binOp .eql 5 (.tmp m) (.const (.int .u8 K)) 5)
    (h3 : o3.guard = none) (d3 : o3.dst = some (m + 2)) (e3 : o3.op = .pick (.tmp p) (.const (.bool true)) (.tmp (m + 1)))
    (h4 : o4.guard = none) (d4 : o4.dst = some (m + 3)) (e4 : o4.op = .move (.tmp (m + 2)))
    (hi : (ops[i]?).bind (·.dst) = some p) (hp : a.tmps[p]? = some (.bool b)) (h6 : a.tmps[6]? = some (.int .u8 c)) (hm : m + 3 < a.tmps.size) (hpm : p < m)
    (h : ∀ y0 y1, wpList Tryz.prog ops Q rest ((((a.put (some m) y0).put (some (m + 1)) y1).put (some (m + 2)) (.bool (b || c == K))).put (some (m + 3)) (.bool (b || c == K))) w) :
    wpList Tryz.prog ops Q (o1 :: o2 :: o3 :: o4 :: rest) a w := by
  refine wpList_gu i p false b h1 hi hp (.int .u8 c) (fun _ => by rw [run_move _ _ _ e1, eval_of h6]) ?_
  rw [d1]
  have p1 : (a.put (some m) (if b = false then .int .u8 c else undef)).tmps[p]? = some (.bool b) := (put_other _ _ _ _ (by omega)).trans hp
  have q1 := put_same a m (if b = false then .int .u8 c else undef) (by omega)
  refine wpList_gu i p false b h2 hi p1 (.bool (c == K)) (fun hb => by
    rw [if_pos hb] at q1
    refine run_eq8 _ _ _ _ _ c K e2 ?_ rfl
    rw [if_pos hb]
    exact eval_of q1) ?_
  rw [d2]
  have hm1 : m + 1 < (a.put (some m) (if b = false then Value.int .u8 c else undef)).tmps.size := by rw [put_size]; omega
  have p2 : ((a.put (some m) (if b = false then .int .u8 c else undef)).put (some (m + 1)) (if b = false then .bool (c == K) else undef)).tmps[p]? = some (.bool b) := (put_other _ _ _ _ (by omega)).trans p1
  have q2 := put_same (a.put (some m) (if b = false then .int .u8 c else undef)) (m + 1) (if b = false then .bool (c == K) else undef) hm1
  have hx := h (if b = false then .int .u8 c else undef) (if b = false then .bool (c == K) else undef)
  have hm2 : m + 2 < ((a.put (some m) (if b = false then Value.int .u8 c else undef)).put (some (m + 1)) (if b = false then .bool (c == K) else undef)).tmps.size := by rw [put_size, put_size]; omega
  generalize (a.put (some m) (if b = false then .int .u8 c else undef)).put (some (m + 1)) (if b = false then .bool (c == K) else undef) = a2 at *
  refine wpList_un h3 (.bool (b || c == K)) ?_ ?_
  · rw [run_pick _ _ _ _ _ _ _ e3 b (eval_of p2), eval_of q2]
    cases b <;> rfl
  rw [d3]
  have q3 := put_same a2 (m + 2) (.bool (b || c == K)) hm2
  refine wpList_un h4 (.bool (b || c == K)) (by rw [run_move _ _ _ e4, eval_of q3]) ?_
  rw [d4]
  exact hx
/-- .. || c == K, and the answer is laid into slot t -/
theorem or_eq_last {a : Act} {o1 o2 o3 o4 : Oper} (m p i t : Nat) (b : Bool) (c K : Int)
    (h1 : o1.guard = some (i, false)) (d1 : o1.dst = some m) (e1 : o1.op = .move (.tmp 6))
    (h2 : o2.guard = some (i, false)) (d2 : o2.dst = some (m + 1)) (e2 : o2.op = .binOp .eql 5 (.tmp m) (.const (.int .u8 K)) 5)
    (h3 : o3.guard = none) (d3 : o3.dst = some (m + 2)) (e3 : o3.op = .pick (.tmp p) (.const (.bool true)) (.tmp (m + 1)))
    (h4 : o4.guard = none) (d4 : o4.dst = some t) (e4 : o4.op = .assign (.tmp (m + 2)))
    (hi : (ops[i]?).bind (·.dst) = some p) (hp : a.tmps[p]? = some (.bool b)) (h6 : a.tmps[6]? = some (.int .u8 c)) (hm : m + 2 < a.tmps.size) (hpm : p < m)
    (h : ∀ y0 y1, wpList Tryz.prog ops Q rest ((((a.put (some m) y0).put (some (m + 1)) y1).put (some (m + 2)) (.bool (b || c == K))).put (some t) (.bool (b || c == K))) w) :
    wpList Tryz.prog ops Q (o1 :: o2 :: o3 :: o4 :: rest) a w := by
  refine wpList_gu i p false b h1 hi hp (.int .u8 c) (fun _ => by rw [run_move _ _ _ e1, eval_of h6]) ?_
  rw [d1]
  have p1 : (a.put (some m) (if b = false then .int .u8 c else undef)).tmps[p]? = some (.bool b) := (put_other _ _ _ _ (by omega)).trans hp
  have q1 := put_same a m (if b = false then .int .u8 c else undef) (by omega)
  refine wpList_gu i p false b h2 hi p1 (.bool (c == K)) (fun hb => by
    rw [if_pos hb] at q1
    refine run_eq8 _ _ _ _ _ c K e2 ?_ rfl
    rw [if_pos hb]
    exact eval_of q1) ?_
  rw [d2]
  have hm1 : m + 1 < (a.put (some m) (if b = false then Value.int .u8 c else undef)).tmps.size := by rw [put_size]; omega
  have p2 : ((a.put (some m) (if b = false then .int .u8 c else undef)).put (some (m + 1)) (if b = false then .bool (c == K) else undef)).tmps[p]? = some (.bool b) := (put_other _ _ _ _ (by omega)).trans p1
  have q2 := put_same (a.put (some m) (if b = false then .int .u8 c else undef)) (m + 1) (if b = false then .bool (c == K) else undef) hm1
  have hx := h (if b = false then .int .u8 c else undef) (if b = false then .bool (c == K) else undef)
  have hm2 : m + 2 < ((a.put (some m) (if b = false then Value.int .u8 c else undef)).put (some (m + 1)) (if b = false then .bool (c == K) else undef)).tmps.size := by rw [put_size, put_size]; omega
  generalize (a.put (some m) (if b = false then .int .u8 c else undef)).put (some (m + 1)) (if b = false then .bool (c == K) else undef) = a2 at *
  refine wpList_un h3 (.bool (b || c == K)) ?_ ?_
  · rw [run_pick _ _ _ _ _ _ _ e3 b (eval_of p2), eval_of q2]
    cases b <;> rfl
  rw [d3]
  have q3 := put_same a2 (m + 2) (.bool (b || c == K)) hm2
  refine wpList_un h4 (.bool (b || c == K)) (by rw [run_assign _ _ _ _ _ e4, eval_of q3]) ?_
  rw [d4]
  exact hx
/-- .. || lo ≤ c && c ≤ hi -/
theorem or_rng {a : Act} {o1 o2 o3 o4 o5 o6 o7 o8 : Oper} (m p i i3 : Nat) (b : Bool) (c lo hi : Int)
    (h1 : o1.guard = some (i, false)) (d1 : o1.dst = some m) (e1 : o1.op = .move (.tmp 6))
    (h2 : o2.guard = some (i, false)) (d2 : o2.dst = some (m + 1)) (e2 : o2.op = .binOp .leq 5 (.const (.int .u8 lo)) (.tmp m) 5)
    (h3 : o3.guard = some (i, false)) (d3 : o3.dst = some (m + 2)) (e3 : o3.op = .move (.tmp (m + 1)))
    (h4 : o4.guard = some (i3, true)) (d4 : o4.dst = some (m + 3)) (e4 : o4.op = .move (.tmp 6))
    (h5 : o5.guard = some (i3, true)) (d5 : o5.dst = some (m + 4)) (e5 : o5.op = .binOp .leq 5 (.tmp (m + 3)) (.const (.int .u8 hi)) 5)
    (h6' : o6.guard = some (i, false)) (d6 : o6.dst = some (m + 5)) (e6 : o6.op = .pick (.tmp (m + 2)) (.tmp (m + 4)) (.const (.bool false)))
    (h7 : o7.guard = none) (d7 : o7.dst = some (m + 6)) (e7 : o7.op = .pick (.tmp p) (.const (.bool true)) (.tmp (m + 5)))
    (h8 : o8.guard = none) (d8 : o8.dst = some (m + 7)) (e8 : o8.op = .move (.tmp (m + 6)))
    (hi1 : (ops[i]?).bind (·.dst) = some p) (hi3 : (ops[i3]?).bind (·.dst) = some (m + 2)) (hp : a.tmps[p]? = some (.bool b)) (h6 : a.tmps[6]? = some (.int .u8 c)) (hm : m + 7 < a.tmps.size) (hpm : p < m) (h6m : 6 < m)
    (h : ∀ y0 y1 y2 y3 y4 y5, wpList Tryz.prog ops Q rest ((((((((a.put (some m) y0).put (some (m + 1)) y1).put (some (m + 2)) y2).put (some (m + 3)) y3).put (some (m + 4)) y4).put (some (m + 5)) y5).put (some (m + 6)) (.bool (b || (decide (lo ≤ c) && decide (c ≤ hi))))).put (some (m + 7)) (.bool (b || (decide (lo ≤ c) && decide (c ≤ hi))))) w) :
    wpList Tryz.prog ops Q (o1 :: o2 :: o3 :: o4 :: o5 :: o6 :: o7 :: o8 :: rest) a w := by
  have fin : ∀ (y0 y1 y2 y3 y4 y5 : Value), (b = false → y5 = .bool (decide (lo ≤ c) && decide (c ≤ hi))) →
      wpList Tryz.prog ops Q (o7 :: o8 :: rest) ((((((a.put (some m) y0).put (some (m + 1)) y1).put (some (m + 2)) y2).put (some (m + 3)) y3).put (some (m + 4)) y4).put (some (m + 5)) y5) w := by
    intro y0 y1 y2 y3 y4 y5 hy
    have hx := h y0 y1 y2 y3 y4 y5
    have pp : ((((((a.put (some m) y0).put (some (m + 1)) y1).put (some (m + 2)) y2).put (some (m + 3)) y3).put (some (m + 4)) y4).put (some (m + 5)) y5).tmps[p]? = some (.bool b) := by
      rw [put_other _ _ _ _ (by omega), put_other _ _ _ _ (by omega), put_other _ _ _ _ (by omega), put_other _ _ _ _ (by omega), put_other _ _ _ _ (by omega), put_other _ _ _ _ (by omega)]
      exact hp
    have q5 : ((((((a.put (some m) y0).put (some (m + 1)) y1).put (some (m + 2)) y2).put (some (m + 3)) y3).put (some (m + 4)) y4).put (some (m + 5)) y5).tmps[m + 5]? = some y5 := put_same _ _ _ (by simp only [put_size]; omega)
    have hsz : m + 7 < ((((((a.put (some m) y0).put (some (m + 1)) y1).put (some (m + 2)) y2).put (some (m + 3)) y3).put (some (m + 4)) y4).put (some (m + 5)) y5).tmps.size := by simp only [put_size]; omega
    generalize (((((a.put (some m) y0).put (some (m + 1)) y1).put (some (m + 2)) y2).put (some (m + 3)) y3).put (some (m + 4)) y4).put (some (m + 5)) y5 = a2 at *
    refine wpList_un h7 (.bool (b || (decide (lo ≤ c) && decide (c ≤ hi)))) ?_ ?_
    · rw [run_pick _ _ _ _ _ _ _ e7 b (eval_of pp), eval_of q5]
      cases b with
      | true => rfl
      | false => rw [hy rfl]; rfl
    rw [d7]
    have q7 := put_same a2 (m + 6) (.bool (b || (decide (lo ≤ c) && decide (c ≤ hi)))) (by omega)
    refine wpList_un h8 (.bool (b || (decide (lo ≤ c) && decide (c ≤ hi)))) (by rw [run_move _ _ _ e8, eval_of q7]) ?_
    rw [d8]
    exact hx
  cases b with
  | true =>
    have sk : ∀ {a : Act} {o : Oper} {rest : List Oper} (t : Nat), a.tmps[p]? = some (.bool true) → o.guard = some (i, false) → o.dst = some t → wpList Tryz.prog ops Q rest (a.put (some t) undef) w → wpList Tryz.prog ops Q (o :: rest) a w := fun {a o rest} t hp hg hd h =>
      wpList_gu i p false true hg hi1 hp undef (fun e => by cases e) (by rw [hd]; exact h)
    refine sk m hp h1 d1 (sk (m + 1) ((put_other _ _ _ _ (by omega)).trans hp) h2 d2 (sk (m + 2) (((put_other _ _ _ _ (by omega)).trans (put_other _ _ _ _ (by omega))).trans hp) h3 d3 ?_))
    have z2 : (((a.put (some m) undef).put (some (m + 1)) undef).put (some (m + 2)) undef).tmps[m + 2]? = some undef := put_same _ _ _ (by simp only [put_size]; omega)
    refine skip_undef i3 (m + 2) true h4 hi3 z2 ?_
    rw [d4]
    refine skip_undef i3 (m + 2) true h5 hi3 ((put_other _ _ _ _ (by omega)).trans z2) ?_
    rw [d5]
    refine sk (m + 5) ?_ h6' d6 (fin _ _ _ _ _ _ (fun e => by cases e))
    rw [put_other _ _ _ _ (by omega), put_other _ _ _ _ (by omega), put_other _ _ _ _ (by omega), put_other _ _ _ _ (by omega), put_other _ _ _ _ (by omega)]
    exact hp
  | false =>
    have rn : ∀ {a : Act} {o : Oper} {rest : List Oper} (t : Nat) (v : Value), a.tmps[p]? = some (.bool false) → o.guard = some (i, false) → o.dst = some t → (execOp a.eval o).run Tryz.prog w = .ok (.value v) w → wpList Tryz.prog ops Q rest (a.put (some t) v) w → wpList Tryz.prog ops Q (o :: rest) a w := fun {a o rest} t v hp hg hd hr h =>
      wpList_gu i p false false hg hi1 hp v (fun _ => hr) (by rw [hd]; exact h)
    refine rn m (.int .u8 c) hp h1 d1 (by rw [run_move _ _ _ e1, eval_of h6]) ?_
    have q0 := put_same a m (.int .u8 c) (by omega)
    refine rn (m + 1) (.bool (decide (lo ≤ c))) ((put_other _ _ _ _ (by omega)).trans hp) h2 d2 (run_le8 _ _ _ _ _ lo c e2 rfl (eval_of q0)) ?_
    have q1 := put_same (a.put (some m) (.int .u8 c)) (m + 1) (.bool (decide (lo ≤ c))) (by rw [put_size]; omega)
    refine rn (m + 2) (.bool (decide (lo ≤ c))) (((put_other _ _ _ _ (by omega)).trans (put_other _ _ _ _ (by omega))).trans hp) h3 d3 (by rw [run_move _ _ _ e3, eval_of q1]) ?_
    have q2 := put_same ((a.put (some m) (.int .u8 c)).put (some (m + 1)) (.bool (decide (lo ≤ c)))) (m + 2) (.bool (decide (lo ≤ c))) (by simp only [put_size]; omega)
    have p2 : (((a.put (some m) (.int .u8 c)).put (some (m + 1)) (.bool (decide (lo ≤ c)))).put (some (m + 2)) (.bool (decide (lo ≤ c)))).tmps[p]? = some (.bool false) := by
      rw [put_other _ _ _ _ (by omega), put_other _ _ _ _ (by omega), put_other _ _ _ _ (by omega)]; exact hp
    have s2 : (((a.put (some m) (.int .u8 c)).put (some (m + 1)) (.bool (decide (lo ≤ c)))).put (some (m + 2)) (.bool (decide (lo ≤ c)))).tmps[6]? = some (.int .u8 c) := by
      rw [put_other _ _ _ _ (by omega), put_other _ _ _ _ (by omega), put_other _ _ _ _ (by omega)]; exact h6
    refine wpList_gu i3 (m + 2) true (decide (lo ≤ c)) h4 hi3 q2 (.int .u8 c) (fun _ => by rw [run_move _ _ _ e4, eval_of s2]) ?_
    rw [d4]
    have q3 := put_same (((a.put (some m) (.int .u8 c)).put (some (m + 1)) (.bool (decide (lo ≤ c)))).put (some (m + 2)) (.bool (decide (lo ≤ c)))) (m + 3) (if decide (lo ≤ c) = true then .int .u8 c else undef) (by simp only [put_size]; omega)
    refine wpList_gu i3 (m + 2) true (decide (lo ≤ c)) h5 hi3 ((put_other _ _ _ _ (by omega)).trans q2) (.bool (decide (c ≤ hi))) (fun hb => by
      rw [if_pos hb] at q3
      refine run_le8 _ _ _ _ _ c hi e5 ?_ rfl
      rw [if_pos hb]
      exact eval_of q3) ?_
    rw [d5]
    refine rn (m + 5) (.bool (decide (lo ≤ c) && decide (c ≤ hi))) ?_ h6' d6 ?_ (fin _ _ _ _ _ _ (fun _ => rfl))
    · rw [put_other _ _ _ _ (by omega), put_other _ _ _ _ (by omega)]; exact p2
    · have q4 := put_same ((((a.put (some m) (.int .u8 c)).put (some (m + 1)) (.bool (decide (lo ≤ c)))).put (some (m + 2)) (.bool (decide (lo ≤ c)))).put (some (m + 3)) (if decide (lo ≤ c) = true then .int .u8 c else undef)) (m + 4) (if decide (lo ≤ c) = true then .bool (decide (c ≤ hi)) else undef) (by simp only [put_size]; omega)
      have q5 := (put_other ((((a.put (some m) (.int .u8 c)).put (some (m + 1)) (.bool (decide (lo ≤ c)))).put (some (m + 2)) (.bool (decide (lo ≤ c)))).put (some (m + 3)) (if decide (lo ≤ c) = true then .int .u8 c else undef)) (m + 4) (m + 2) (if decide (lo ≤ c) = true then .bool (decide (c ≤ hi)) else undef) (by omega)).trans ((put_other _ (m + 3) (m + 2) _ (by omega)).trans q2)
      rw [run_pick _ _ _ _ _ _ _ e6 (decide (lo ≤ c)) (eval_of q5), eval_of q4]
      cases decide (lo ≤ c) <;> rfl
end
end Go.Proofs.YtblabjfjhlablaaGreatDoor
