/- The walk of certificate, its permitted names none of any kind; both cases in one. Printed by gen/certificate.py. -/
import Derived.Test.YtblabjfjhlablaaGreatDoorW15
namespace Go.Proofs.YtblabjfjhlablaaGreatDoor
open Go.RowKit Nc
set_option linter.unusedSimpArgs false in
set_option maxRecDepth 100000 in
set_option maxHeartbeats 4000000 in
theorem certificate_false (pA eA nA : Nat → Option Addr) (pn en nn pc ec nc : Nat → Nat) (pl el nl : Nat → List ByteArray) (φ0 φ1 : World → Value → Prop) (w : World) (hp : ∀ k, pn k ≤ 1000000) (he : ∀ k, en k ≤ 1000000) (hn : ∀ k, nn k ≤ 1000000)
    (hpR : ∀ k, k < 3 → Reads w w.heap.size 1 (pA k) (pn k) ((pl k).map .string)) (heR : ∀ k, k < 3 → Reads w w.heap.size 1 (eA k) (en k) ((el k).map .string)) (hnR : ∀ k, k < 3 → Reads w w.heap.size 1 (nA k) (nn k) ((nl k).map .string))
    (hN0 : ∀ W, Below w.heap.size w W → Calls Tryz.prog 66 #[.slice (pA 3) (pn 3) (pc 3)] W (Makes φ0 W)) (hN1 : ∀ W, Below w.heap.size w W → Calls Tryz.prog 66 #[.slice (eA 3) (en 3) (ec 3)] W (Makes φ1 W))
    (hφ0 : ∀ W W' v, φ0 W v → Below W.heap.size W W' → φ0 W' v) (hφ1 : ∀ W W' v, φ1 W v → Below W.heap.size W W' → φ1 W' v) (hn3 : nn 3 = 0) (hbq : someAny pn = false) :
    Calls Tryz.prog 54 #[certV (fun k => .slice (pA k) (pn k) (pc k)) (fun k => .slice (eA k) (en k) (ec k)) (fun k => .slice (nA k) (nn k) (nc k))] w fun e w' =>
      ∃ C, e = .returned (.pointer (some ⟨C, 0, none⟩)) ∧ Below w.heap.size w w' ∧ w.heap.size ≤ C ∧ ∃ cv, CertMade pl el nl φ0 φ1 (fun v => v = .slice none 0 0) (someAny pn || someAny en) (someAny nn) w' C cv := by
  obtain ⟨i0, hi0, hz0, hz1, hz2⟩ := info_parts str_info
  have P0 := Lib.hid hφ0
  have P1 := Lib.hid hφ1
  have Rp0 := Lib.hid (hpR 0 (by omega))
  have bp0 := Lib.hid (hp 0)
  have Rp1 := Lib.hid (hpR 1 (by omega))
  have bp1 := Lib.hid (hp 1)
  have Rp2 := Lib.hid (hpR 2 (by omega))
  have bp2 := Lib.hid (hp 2)
  have Re0 := Lib.hid (heR 0 (by omega))
  have be0 := Lib.hid (he 0)
  have Re1 := Lib.hid (heR 1 (by omega))
  have be1 := Lib.hid (he 1)
  have Re2 := Lib.hid (heR 2 (by omega))
  have be2 := Lib.hid (he 2)
  have Rn0 := Lib.hid (hnR 0 (by omega))
  have bn0 := Lib.hid (hn 0)
  have Rn1 := Lib.hid (hnR 1 (by omega))
  have bn1 := Lib.hid (hn 1)
  have Rn2 := Lib.hid (hnR 2 (by omega))
  have bn2 := Lib.hid (hn 2)
  have X0 := Lib.hid hN0
  have X1 := Lib.hid hN1
  have q1 : someAny pn = decide (0 < pn 0 + pn 1 + pn 2 + pn 3) := rfl
  have q2 : someAny en = decide (0 < en 0 + en 1 + en 2 + en 3) := rfl
  have hany1 := fun W => any_calls (pA 0) (pA 1) (pA 2) (pA 3) (pn 0) (pn 1) (pn 2) (pn 3) (pc 0) (pc 1) (pc 2) (pc 3) W (hp _) (hp _) (hp _) (hp _)
  have hany2 := fun W => any_calls (eA 0) (eA 1) (eA 2) (eA 3) (en 0) (en 1) (en 2) (en 3) (ec 0) (ec 1) (ec 2) (ec 3) W (he _) (he _) (he _) (he _)
  rw [← q1] at hany1
  rw [← q2] at hany2
  have n0 := hn 0
  have n1 := hn 1
  have n2 := hn 2
  have hsn : someAny nn = decide (0 < nn 0 + nn 1 + nn 2 + nn 3) := rfl
  rw [hn3] at hsn
  have y1 : IntKind.i64.wrap ((nn 0 : Int) + (nn 1 : Int)) = (nn 0 : Int) + (nn 1 : Int) := wrap_small (by omega) (by omega)
  have y2 : IntKind.i64.wrap ((nn 0 : Int) + (nn 1 : Int) + (nn 2 : Int)) = (nn 0 : Int) + (nn 1 : Int) + (nn 2 : Int) := wrap_small (by omega) (by omega)
  have y4 : decide ((0 : Int) < (nn 0 : Int) + (nn 1 : Int) + (nn 2 : Int)) = someAny nn := by rw [hsn]; exact decide_eq_decide.2 (by omega)
  have hC : Blk (w.alloc (.cells (certC (fun k => .slice (pA k) (pn k) (pc k)) (fun k => .slice (eA k) (en k) (ec k)) (fun k => .slice (nA k) (nn k) (nc k))) 30)) w.heap.size 30 _ := Blk.new _ _ _
  have hb0 : Below w.heap.size w (w.alloc (.cells (certC (fun k => .slice (pA k) (pn k) (pc k)) (fun k => .slice (eA k) (en k) (ec k)) (fun k => .slice (nA k) (nn k) (nc k))) 30)) := (Below.refl _ _).alloc (Nat.le_refl _) _
  unfold certV
  unfold certC at hC hb0
  simp only [hn3] at hC hb0
  simp only [hn3]
  have hC2 := Lib.hid hC
  have H1 := Lib.hid hany1
  have H2 := Lib.hid hany2
  clear hany1 hany2 q1 q2 hp he hn hpR heR hnR hN0 hN1 hsn hφ0 hφ1 n0 n1 n2 hC
  generalize hq : someAny pn = bq at *
  clear hq
  subst hbq
  generalize hq2 : someAny en = bq2 at *
  clear hq2
  go_enter Tryz.func54, Tryz.ntmps54
  go_wp2
  simp only [List.append_eq, List.cons_append, List.nil_append]
  have hC := hC2.out
  clear hC2
  change Code.wp _ _ _ _ (w.alloc (.cells #[.slice (pA 0) (pn 0) (pc 0), .slice (pA 1) (pn 1) (pc 1), .slice (pA 2) (pn 2) (pc 2), .slice (pA 3) (pn 3) (pc 3), .slice (eA 0) (en 0) (ec 0), .slice (eA 1) (en 1) (ec 1), .slice (eA 2) (en 2) (ec 2), .slice (eA 3) (en 3) (ec 3), .slice (nA 0) (nn 0) (nc 0), .slice (nA 1) (nn 1) (nc 1), .slice (nA 2) (nn 2) (nc 2), .slice (nA 3) 0 (nc 3)] 30))
  generalize w.alloc (.cells #[.slice (pA 0) (pn 0) (pc 0), .slice (pA 1) (pn 1) (pc 1), .slice (pA 2) (pn 2) (pc 2), .slice (pA 3) (pn 3) (pc 3), .slice (eA 0) (en 0) (ec 0), .slice (eA 1) (en 1) (ec 1), .slice (eA 2) (en 2) (ec 2), .slice (eA 3) (en 3) (ec 3), .slice (nA 0) (nn 0) (nc 0), .slice (nA 1) (nn 1) (nc 1), .slice (nA 2) (nn 2) (nc 2), .slice (nA 3) 0 (nc 3)] 30) = W0 at *
  refine wp_region_noPanic ?_
  refine wp_region_held_drew (S := (fun W => W.cell? ⟨w.heap.size, 0, none⟩ = some (.slice (pA 0) (pn 0) (pc 0)) ∧ W.cell? ⟨w.heap.size, 1, none⟩ = some (.slice (pA 1) (pn 1) (pc 1)) ∧ W.cell? ⟨w.heap.size, 2, none⟩ = some (.slice (pA 2) (pn 2) (pc 2)) ∧ W.cell? ⟨w.heap.size, 3, none⟩ = some (.slice (pA 3) (pn 3) (pc 3)) ∧ W.cell? ⟨w.heap.size, 4, none⟩ = some (.slice (eA 0) (en 0) (ec 0)) ∧ W.cell? ⟨w.heap.size, 5, none⟩ = some (.slice (eA 1) (en 1) (ec 1)) ∧ W.cell? ⟨w.heap.size, 6, none⟩ = some (.slice (eA 2) (en 2) (ec 2)) ∧ W.cell? ⟨w.heap.size, 7, none⟩ = some (.slice (eA 3) (en 3) (ec 3)) ∧ W.cell? ⟨w.heap.size, 8, none⟩ = some (.slice (nA 0) (nn 0) (nc 0)) ∧ W.cell? ⟨w.heap.size, 9, none⟩ = some (.slice (nA 1) (nn 1) (nc 1)) ∧ W.cell? ⟨w.heap.size, 10, none⟩ = some (.slice (nA 2) (nn 2) (nc 2)) ∧ W.cell? ⟨w.heap.size, 11, none⟩ = some (.slice (nA 3) 0 (nc 3)) ∧ W.cell? ⟨w.heap.size, 4 + 1, none⟩ = some (.slice (eA 1) (en 1) (ec 1)) ∧ W.cell? ⟨w.heap.size, 4 + 2, none⟩ = some (.slice (eA 2) (en 2) (ec 2)) ∧ W.cell? ⟨w.heap.size, 4 + 3, none⟩ = some (.slice (eA 3) (en 3) (ec 3)))) (by kernel_rfl) ?h0 (fun hHeld0 => ?_)
  case h0 => ((try dsimp only); exact cells12 hC.drew)
  refine wpAnyH_take (i := 0) (oi := _) (v := ?v0) rfl (by kernel_rfl) (by kernel_rfl) (by kernel_rfl) (fun _ _ _ h => h) (Or.inl ⟨by rfl, ?y0⟩) (by assumption) ?r0
  case y0 => (intro W hSw; (try dsimp only at hSw); go_simp; try with_reducible rfl)
  (try simp only [Act.put, List.setIfInBounds_toArray, List.set_cons_zero, List.set_cons_succ])
  refine wpAnyH_take (i := 1) (oi := _) (v := ?v1) rfl (by kernel_rfl) (by kernel_rfl) (by kernel_rfl) (fun _ _ _ h => h) (Or.inl ⟨by rfl, ?y1⟩) (by assumption) ?r1
  case y1 => (intro W hSw; (try dsimp only at hSw); go_simp; try with_reducible rfl)
  (try simp only [Act.put, List.setIfInBounds_toArray, List.set_cons_zero, List.set_cons_succ])
  refine wpAnyH_take (i := 8) (oi := _) (v := ?v8) rfl (by kernel_rfl) (by kernel_rfl) (by kernel_rfl) (fun _ _ _ h => h) (Or.inl ⟨by rfl, ?y8⟩) (by assumption) ?r8
  case y8 => (intro W hSw; (try dsimp only at hSw); go_simp; try with_reducible rfl)
  (try simp only [Act.put, List.setIfInBounds_toArray, List.set_cons_zero, List.set_cons_succ])
  refine wpAnyH_take (i := 9) (oi := _) (v := ?v9) rfl (by kernel_rfl) (by kernel_rfl) (by kernel_rfl) (fun _ _ _ h => h) (Or.inl ⟨by rfl, ?y9⟩) (by assumption) ?r9
  case y9 => (intro W hSw; (try dsimp only at hSw); go_simp; try with_reducible rfl)
  (try simp only [Act.put, List.setIfInBounds_toArray, List.set_cons_zero, List.set_cons_succ])
  refine wpAnyH_take (i := 10) (oi := _) (v := ?v10) rfl (by kernel_rfl) (by kernel_rfl) (by kernel_rfl) (fun _ _ _ h => h) (Or.inl ⟨by rfl, ?y10⟩) (by assumption) ?r10
  case y10 => (intro W hSw; (try dsimp only at hSw); go_simp; try with_reducible rfl)
  (try simp only [Act.put, List.setIfInBounds_toArray, List.set_cons_zero, List.set_cons_succ])
  refine wpAnyH_take (i := 11) (oi := _) (v := ?v11) rfl (by kernel_rfl) (by kernel_rfl) (by kernel_rfl) (fun _ _ _ h => h) (Or.inl ⟨by rfl, ?y11⟩) (by assumption) ?r11
  case y11 => (intro W hSw; (try dsimp only at hSw); go_simp; try with_reducible rfl)
  (try simp only [Act.put, List.setIfInBounds_toArray, List.set_cons_zero, List.set_cons_succ])
  refine wpAnyH_take (i := 12) (oi := _) (v := ?v12) rfl (by kernel_rfl) (by kernel_rfl) (by kernel_rfl) (fun _ _ _ h => h) (Or.inl ⟨by rfl, ?y12⟩) (by assumption) ?r12
  case y12 => (intro W hSw; (try dsimp only at hSw); go_simp; try with_reducible rfl)
  (try simp only [Act.put, List.setIfInBounds_toArray, List.set_cons_zero, List.set_cons_succ])
  refine wpAnyH_take (i := 13) (oi := _) (v := ?v13) rfl (by kernel_rfl) (by kernel_rfl) (by kernel_rfl) (fun _ _ _ h => h) (Or.inl ⟨by rfl, ?y13⟩) (by assumption) ?r13
  case y13 => (intro W hSw; (try dsimp only at hSw); go_simp; try with_reducible rfl)
  (try simp only [Act.put, List.setIfInBounds_toArray, List.set_cons_zero, List.set_cons_succ])
  refine wpAnyH_take (i := 14) (oi := _) (v := ?v14) rfl (by kernel_rfl) (by kernel_rfl) (by kernel_rfl) (fun _ _ _ h => h) (Or.inl ⟨by rfl, ?y14⟩) (by assumption) ?r14
  case y14 => (intro W hSw; (try dsimp only at hSw); go_simp; try with_reducible rfl)
  (try simp only [Act.put, List.setIfInBounds_toArray, List.set_cons_zero, List.set_cons_succ])
  refine wpAnyH_take (i := 15) (oi := _) (v := ?v15) rfl (by kernel_rfl) (by kernel_rfl) (by kernel_rfl) (fun _ _ _ h => h) (Or.inl ⟨by rfl, ?y15⟩) (by assumption) ?r15
  case y15 => (intro W hSw; (try dsimp only at hSw); go_simp; try with_reducible rfl)
  (try simp only [Act.put, List.setIfInBounds_toArray, List.set_cons_zero, List.set_cons_succ])
  refine wpAnyH_take (i := 16) (oi := _) (v := ?v16) rfl (by kernel_rfl) (by kernel_rfl) (by kernel_rfl) (fun _ _ _ h => h) (Or.inl ⟨by rfl, ?y16⟩) (by assumption) ?r16
  case y16 => (intro W hSw; (try dsimp only at hSw); go_simp; try with_reducible rfl)
  (try simp only [Act.put, List.setIfInBounds_toArray, List.set_cons_zero, List.set_cons_succ])
  refine wpAnyH_take (i := 17) (oi := _) (v := ?v17) rfl (by kernel_rfl) (by kernel_rfl) (by kernel_rfl) (fun _ _ _ h => h) (Or.inl ⟨by rfl, ?y17⟩) (by assumption) ?r17
  case y17 => (intro W hSw; (try dsimp only at hSw); go_simp; try with_reducible rfl)
  (try simp only [Act.put, List.setIfInBounds_toArray, List.set_cons_zero, List.set_cons_succ])
  refine wpAnyH_take (i := 18) (oi := _) (v := ?v18) rfl (by kernel_rfl) (by kernel_rfl) (by kernel_rfl) (fun _ _ _ h => h) (Or.inl ⟨by rfl, ?y18⟩) (by assumption) ?r18
  case y18 => (intro W hSw; (try dsimp only at hSw); go_simp; try with_reducible rfl)
  (try simp only [Act.put, List.setIfInBounds_toArray, List.set_cons_zero, List.set_cons_succ])
  refine wpAnyH_take (i := 19) (oi := _) (v := ?v19) rfl (by kernel_rfl) (by kernel_rfl) (by kernel_rfl) (fun _ _ _ h => h) (Or.inl ⟨by rfl, ?y19⟩) (by assumption) ?r19
  case y19 => (intro W hSw; (try dsimp only at hSw); go_simp; try with_reducible rfl)
  (try simp only [Act.put, List.setIfInBounds_toArray, List.set_cons_zero, List.set_cons_succ])
  refine wpAnyH_take (i := 20) (oi := _) (v := ?v20) rfl (by kernel_rfl) (by kernel_rfl) (by kernel_rfl) (fun _ _ _ h => h) (Or.inl ⟨by rfl, ?y20⟩) (by assumption) ?r20
  case y20 => (intro W hSw; (try dsimp only at hSw); go_simp; try with_reducible rfl)
  (try simp only [Act.put, List.setIfInBounds_toArray, List.set_cons_zero, List.set_cons_succ])
  refine wpAnyH_take (i := 21) (oi := _) (v := ?v21) rfl (by kernel_rfl) (by kernel_rfl) (by kernel_rfl) (fun _ _ _ h => h) (Or.inl ⟨by rfl, ?y21⟩) (by assumption) ?r21
  case y21 => (intro W hSw; (try dsimp only at hSw); go_simp; try with_reducible rfl)
  (try simp only [Act.put, List.setIfInBounds_toArray, List.set_cons_zero, List.set_cons_succ])
  refine wpAnyH_take (i := 22) (oi := _) (v := ?v22) rfl (by kernel_rfl) (by kernel_rfl) (by kernel_rfl) (fun _ _ _ h => h) (Or.inl ⟨by rfl, ?y22⟩) (by assumption) ?r22
  case y22 => (intro W hSw; (try dsimp only at hSw); go_simp; try with_reducible rfl)
  (try simp only [Act.put, List.setIfInBounds_toArray, List.set_cons_zero, List.set_cons_succ])
  refine wpAnyH_take (i := 23) (oi := _) (v := ?v23) rfl (by kernel_rfl) (by kernel_rfl) (by kernel_rfl) (fun _ _ _ h => h) (Or.inl ⟨by rfl, ?y23⟩) (by assumption) ?r23
  case y23 => (intro W hSw; (try dsimp only at hSw); go_simp; try with_reducible rfl)
  (try simp only [Act.put, List.setIfInBounds_toArray, List.set_cons_zero, List.set_cons_succ])
  refine wpAnyH_take (i := 24) (oi := _) (v := ?v24) rfl (by kernel_rfl) (by kernel_rfl) (by kernel_rfl) (fun _ _ _ h => h) (Or.inl ⟨by rfl, ?y24⟩) (by assumption) ?r24
  case y24 => (intro W hSw; (try dsimp only at hSw); go_simp; try with_reducible rfl)
  (try simp only [Act.put, List.setIfInBounds_toArray, List.set_cons_zero, List.set_cons_succ])
  refine wpAnyH_take (i := 25) (oi := _) (v := ?v25) rfl (by kernel_rfl) (by kernel_rfl) (by kernel_rfl) (fun _ _ _ h => h) (Or.inl ⟨by rfl, ?y25⟩) (by assumption) ?r25
  case y25 => (intro W hSw; (try dsimp only at hSw); go_simp; try with_reducible rfl)
  (try simp only [Act.put, List.setIfInBounds_toArray, List.set_cons_zero, List.set_cons_succ])
  refine wpAnyH_take (i := 26) (oi := _) (v := ?v26) rfl (by kernel_rfl) (by kernel_rfl) (by kernel_rfl) (fun _ _ _ h => h) (Or.inl ⟨by rfl, ?y26⟩) (by assumption) ?r26
  case y26 => (intro W hSw; (try dsimp only at hSw); go_simp; try with_reducible rfl)
  (try simp only [Act.put, List.setIfInBounds_toArray, List.set_cons_zero, List.set_cons_succ])
  refine wpAnyH_take (i := 28) (oi := _) (v := ?v28) rfl (by kernel_rfl) (by kernel_rfl) (by kernel_rfl) (fun _ _ _ h => h) (Or.inl ⟨by rfl, ?y28⟩) (by assumption) ?r28
  case y28 => (intro W hSw; (try dsimp only at hSw); go_simp; try with_reducible rfl)
  (try simp only [Act.put, List.setIfInBounds_toArray, List.set_cons_zero, List.set_cons_succ])
  refine wpAnyH_take (i := 29) (oi := _) (v := ?v29) rfl (by kernel_rfl) (by kernel_rfl) (by kernel_rfl) (fun _ _ _ h => h) (Or.inl ⟨by rfl, ?y29⟩) (by assumption) ?r29
  case y29 => (intro W hSw; (try dsimp only at hSw); go_simp; try with_reducible rfl)
  (try simp only [Act.put, List.setIfInBounds_toArray, List.set_cons_zero, List.set_cons_succ])
  refine wpAnyH_take (i := 30) (oi := _) (v := ?v30) rfl (by kernel_rfl) (by kernel_rfl) (by kernel_rfl) (fun _ _ _ h => h) (Or.inl ⟨by rfl, ?y30⟩) (by assumption) ?r30
  case y30 => (intro W hSw; (try dsimp only at hSw); go_simp; try with_reducible rfl)
  (try simp only [Act.put, List.setIfInBounds_toArray, List.set_cons_zero, List.set_cons_succ])
  refine wpAnyH_take (i := 32) (oi := _) (v := ?v32) rfl (by kernel_rfl) (by kernel_rfl) (by kernel_rfl) (fun _ _ _ h => h) (Or.inl ⟨by rfl, ?y32⟩) (by assumption) ?r32
  case y32 => (intro W hSw; (try dsimp only at hSw); go_simp; try with_reducible rfl)
  (try simp only [Act.put, List.setIfInBounds_toArray, List.set_cons_zero, List.set_cons_succ])
  refine wpAnyH_take (i := 33) (oi := _) (v := ?v33) rfl (by kernel_rfl) (by kernel_rfl) (by kernel_rfl) (fun _ _ _ h => h) (Or.inl ⟨by rfl, ?y33⟩) (by assumption) ?r33
  case y33 => (intro W hSw; (try dsimp only at hSw); go_simp; try with_reducible rfl)
  (try simp only [Act.put, List.setIfInBounds_toArray, List.set_cons_zero, List.set_cons_succ])
  refine wpAnyH_take (i := 34) (oi := _) (v := ?v34) rfl (by kernel_rfl) (by kernel_rfl) (by kernel_rfl) (fun _ _ _ h => h) (Or.inl ⟨by rfl, ?y34⟩) (by assumption) ?r34
  case y34 => (intro W hSw; (try dsimp only at hSw); go_simp; try with_reducible rfl)
  (try simp only [Act.put, List.setIfInBounds_toArray, List.set_cons_zero, List.set_cons_succ])
  refine wpAnyH_take (i := 36) (oi := _) (v := ?v36) rfl (by kernel_rfl) (by kernel_rfl) (by kernel_rfl) (fun _ _ _ h => h) (Or.inl ⟨by rfl, ?y36⟩) (by assumption) ?r36
  case y36 => (intro W hSw; (try dsimp only at hSw); go_simp; try with_reducible rfl)
  (try simp only [Act.put, List.setIfInBounds_toArray, List.set_cons_zero, List.set_cons_succ])
  refine wpAnyH_take (i := 37) (oi := _) (v := ?v37) rfl (by kernel_rfl) (by kernel_rfl) (by kernel_rfl) (fun _ _ _ h => h) (Or.inl ⟨by rfl, ?y37⟩) (by assumption) ?r37
  case y37 => (intro W hSw; (try dsimp only at hSw); go_simp; try with_reducible rfl)
  (try simp only [Act.put, List.setIfInBounds_toArray, List.set_cons_zero, List.set_cons_succ])
  refine wpAnyH_take (i := 38) (oi := _) (v := ?v38) rfl (by kernel_rfl) (by kernel_rfl) (by kernel_rfl) (fun _ _ _ h => h) (Or.inl ⟨by rfl, ?y38⟩) (by assumption) ?r38
  case y38 => (intro W hSw; (try dsimp only at hSw); go_simp; try with_reducible rfl)
  (try simp only [Act.put, List.setIfInBounds_toArray, List.set_cons_zero, List.set_cons_succ])
  refine wpAnyH_take (i := 40) (oi := _) (v := ?v40) rfl (by kernel_rfl) (by kernel_rfl) (by kernel_rfl) (fun _ _ _ h => h) (Or.inl ⟨by rfl, ?y40⟩) (by assumption) ?r40
  case y40 => (intro W hSw; (try dsimp only at hSw); go_simp; try with_reducible rfl)
  (try simp only [Act.put, List.setIfInBounds_toArray, List.set_cons_zero, List.set_cons_succ])
  refine wpAnyH_take (i := 41) (oi := _) (v := ?v41) rfl (by kernel_rfl) (by kernel_rfl) (by kernel_rfl) (fun _ _ _ h => h) (Or.inl ⟨by rfl, ?y41⟩) (by assumption) ?r41
  case y41 => (intro W hSw; (try dsimp only at hSw); go_simp; try with_reducible rfl)
  (try simp only [Act.put, List.setIfInBounds_toArray, List.set_cons_zero, List.set_cons_succ])
  refine wpAnyH_take (i := 42) (oi := _) (v := ?v42) rfl (by kernel_rfl) (by kernel_rfl) (by kernel_rfl) (fun _ _ _ h => h) (Or.inl ⟨by rfl, ?y42⟩) (by assumption) ?r42
  case y42 => (intro W hSw; (try dsimp only at hSw); go_simp; try with_reducible rfl)
  (try simp only [Act.put, List.setIfInBounds_toArray, List.set_cons_zero, List.set_cons_succ])
  refine wpAnyH_take (i := 44) (oi := _) (v := ?v44) rfl (by kernel_rfl) (by kernel_rfl) (by kernel_rfl) (fun _ _ _ h => h) (Or.inl ⟨by rfl, ?y44⟩) (by assumption) ?r44
  case y44 => (intro W hSw; (try dsimp only at hSw); go_simp; try with_reducible rfl)
  (try simp only [Act.put, List.setIfInBounds_toArray, List.set_cons_zero, List.set_cons_succ])
  refine wpAnyH_take (i := 45) (oi := _) (v := ?v45) rfl (by kernel_rfl) (by kernel_rfl) (by kernel_rfl) (fun _ _ _ h => h) (Or.inl ⟨by rfl, ?y45⟩) (by assumption) ?r45
  case y45 => (intro W hSw; (try dsimp only at hSw); go_simp; try with_reducible rfl)
  (try simp only [Act.put, List.setIfInBounds_toArray, List.set_cons_zero, List.set_cons_succ])
  refine wpAnyH_take (i := 46) (oi := _) (v := ?v46) rfl (by kernel_rfl) (by kernel_rfl) (by kernel_rfl) (fun _ _ _ h => h) (Or.inl ⟨by rfl, ?y46⟩) (by assumption) ?r46
  case y46 => (intro W hSw; (try dsimp only at hSw); go_simp; try with_reducible rfl)
  (try simp only [Act.put, List.setIfInBounds_toArray, List.set_cons_zero, List.set_cons_succ])
  refine wpAnyH_take (i := 48) (oi := _) (v := ?v48) rfl (by kernel_rfl) (by kernel_rfl) (by kernel_rfl) (fun _ _ _ h => h) (Or.inl ⟨by rfl, ?y48⟩) (by assumption) ?r48
  case y48 => (intro W hSw; (try dsimp only at hSw); go_simp; try with_reducible rfl)
  (try simp only [Act.put, List.setIfInBounds_toArray, List.set_cons_zero, List.set_cons_succ])
  refine wpAnyH_take (i := 49) (oi := _) (v := ?v49) rfl (by kernel_rfl) (by kernel_rfl) (by kernel_rfl) (fun _ _ _ h => h) (Or.inl ⟨by rfl, ?y49⟩) (by assumption) ?r49
  case y49 => (intro W hSw; (try dsimp only at hSw); go_simp; try with_reducible rfl)
  (try simp only [Act.put, List.setIfInBounds_toArray, List.set_cons_zero, List.set_cons_succ])
  refine wpAnyH_take (i := 50) (oi := _) (v := ?v50) rfl (by kernel_rfl) (by kernel_rfl) (by kernel_rfl) (fun _ _ _ h => h) (Or.inl ⟨by rfl, ?y50⟩) (by assumption) ?r50
  case y50 => (intro W hSw; (try dsimp only at hSw); go_simp; try with_reducible rfl)
  (try simp only [Act.put, List.setIfInBounds_toArray, List.set_cons_zero, List.set_cons_succ])
  refine wpAnyH_take (i := 52) (oi := _) (v := ?v52) rfl (by kernel_rfl) (by kernel_rfl) (by kernel_rfl) (fun _ _ _ h => h) (Or.inl ⟨by rfl, ?y52⟩) (by assumption) ?r52
  case y52 => (intro W hSw; (try dsimp only at hSw); go_simp; try with_reducible rfl)
  (try simp only [Act.put, List.setIfInBounds_toArray, List.set_cons_zero, List.set_cons_succ])
  refine wpAnyH_take (i := 53) (oi := _) (v := ?v53) rfl (by kernel_rfl) (by kernel_rfl) (by kernel_rfl) (fun _ _ _ h => h) (Or.inl ⟨by rfl, ?y53⟩) (by assumption) ?r53
  case y53 => (intro W hSw; (try dsimp only at hSw); go_simp; try with_reducible rfl)
  (try simp only [Act.put, List.setIfInBounds_toArray, List.set_cons_zero, List.set_cons_succ])
  refine wpAnyH_take (i := 54) (oi := _) (v := ?v54) rfl (by kernel_rfl) (by kernel_rfl) (by kernel_rfl) (fun _ _ _ h => h) (Or.inl ⟨by rfl, ?y54⟩) (by assumption) ?r54
  case y54 => (intro W hSw; (try dsimp only at hSw); go_simp; try with_reducible rfl)
  (try simp only [Act.put, List.setIfInBounds_toArray, List.set_cons_zero, List.set_cons_succ])
  refine wpAnyH_take (i := 56) (oi := _) (v := ?v56) rfl (by kernel_rfl) (by kernel_rfl) (by kernel_rfl) (fun _ _ _ h => h) (Or.inl ⟨by rfl, ?y56⟩) (by assumption) ?r56
  case y56 => (intro W hSw; (try dsimp only at hSw); go_simp; try with_reducible rfl)
  (try simp only [Act.put, List.setIfInBounds_toArray, List.set_cons_zero, List.set_cons_succ])
  refine wpAnyH_take (i := 57) (oi := _) (v := ?v57) rfl (by kernel_rfl) (by kernel_rfl) (by kernel_rfl) (fun _ _ _ h => h) (Or.inl ⟨by rfl, ?y57⟩) (by assumption) ?r57
  case y57 => (intro W hSw; (try dsimp only at hSw); go_simp; try with_reducible rfl)
  (try simp only [Act.put, List.setIfInBounds_toArray, List.set_cons_zero, List.set_cons_succ])
  refine wpAnyH_take (i := 59) (oi := _) (v := ?v59) rfl (by kernel_rfl) (by kernel_rfl) (by kernel_rfl) (fun _ _ _ h => h) (Or.inl ⟨by rfl, ?y59⟩) (by assumption) ?r59
  case y59 => (intro W hSw; (try dsimp only at hSw); go_simp; try with_reducible rfl)
  (try simp only [Act.put, List.setIfInBounds_toArray, List.set_cons_zero, List.set_cons_succ])
  refine wpAnyH_take (i := 60) (oi := _) (v := ?v60) rfl (by kernel_rfl) (by kernel_rfl) (by kernel_rfl) (fun _ _ _ h => h) (Or.inl ⟨by rfl, ?y60⟩) (by assumption) ?r60
  case y60 => (intro W hSw; (try dsimp only at hSw); go_simp; try with_reducible rfl)
  (try simp only [Act.put, List.setIfInBounds_toArray, List.set_cons_zero, List.set_cons_succ])
  refine wpAnyH_take (i := 62) (oi := _) (v := ?v62) rfl (by kernel_rfl) (by kernel_rfl) (by kernel_rfl) (fun _ _ _ h => h) (Or.inl ⟨by rfl, ?y62⟩) (by assumption) ?r62
  case y62 => (intro W hSw; (try dsimp only at hSw); go_simp; try with_reducible rfl)
  (try simp only [Act.put, List.setIfInBounds_toArray, List.set_cons_zero, List.set_cons_succ])
  refine wpAnyH_take (i := 63) (oi := _) (v := ?v63) rfl (by kernel_rfl) (by kernel_rfl) (by kernel_rfl) (fun _ _ _ h => h) (Or.inl ⟨by rfl, ?y63⟩) (by assumption) ?r63
  case y63 => (intro W hSw; (try dsimp only at hSw); go_simp; try with_reducible rfl)
  (try simp only [Act.put, List.setIfInBounds_toArray, List.set_cons_zero, List.set_cons_succ])
  refine wpAnyH_ready (rs := [2]) (by kernel_rfl) (by simp) ?_
  refine AllReadyH.cons (o := _) rfl (fun K hK => ?s2) AllReadyH.nil
  go_simp
  (go_at_call 85; (with_reducible refine (H1.out _).mono ?_); rintro e wa ⟨rfl, ba⟩; have Ba := hb0.drew.trans (ba.mono hb0.drew.size); have Da := hC.drew.later ba)
  (try go_wp2_with (fail))
  refine hK.out _ _ ?k2 (fun hHeld3 => ?m2)
  case k2 => ((try dsimp only); exact cells12 Da)
  clear hK K hHeld0
  (try simp only [Act.put, List.setIfInBounds_toArray, List.set_cons_zero, List.set_cons_succ])
  refine wpAnyH_take (i := 3) (oi := _) (v := ?v3) rfl (by kernel_rfl) (by kernel_rfl) (by kernel_rfl) (fun _ _ _ h => h) (Or.inl ⟨by rfl, ?y3⟩) (by assumption) ?r3
  case y3 => (intro W hSw; (try dsimp only at hSw); go_simp; try with_reducible rfl)
  (try simp only [Act.put, List.setIfInBounds_toArray, List.set_cons_zero, List.set_cons_succ])
  refine wpAnyH_take (i := 4) (oi := _) (v := ?v4) rfl (by kernel_rfl) (by kernel_rfl) (by kernel_rfl) (fun _ _ _ h => h) (Or.inl ⟨by rfl, ?y4⟩) (by assumption) ?r4
  case y4 => (intro W hSw; (try dsimp only at hSw); go_simp; try with_reducible rfl)
  (try simp only [Act.put, List.setIfInBounds_toArray, List.set_cons_zero, List.set_cons_succ])
  refine wpAnyH_take (i := 5) (oi := _) (v := ?v5) rfl (by kernel_rfl) (by kernel_rfl) (by kernel_rfl) (fun _ _ _ h => h) (Or.inl ⟨by rfl, ?y5⟩) (by assumption) ?r5
  case y5 => (intro W hSw; (try dsimp only at hSw); go_simp; try with_reducible rfl)
  (try simp only [Act.put, List.setIfInBounds_toArray, List.set_cons_zero, List.set_cons_succ])
  refine wpAnyH_ready (rs := [6]) (by kernel_rfl) (by simp) ?_
  refine AllReadyH.cons (o := _) rfl (fun K hK => ?s6) AllReadyH.nil
  go_simp
  (go_at_call 85; (with_reducible refine (H2.out _).mono ?_); rintro e wb ⟨rfl, bb⟩; have Bb := Ba.trans (bb.mono Ba.size); have Db := Da.later bb)
  (try go_wp2_with (fail))
  refine hK.out _ _ ?k6 (fun hHeld7 => ?m6)
  case k6 => ((try dsimp only); exact cells12 Db)
  clear hK K hHeld3
  (try simp only [Act.put, List.setIfInBounds_toArray, List.set_cons_zero, List.set_cons_succ])
  refine wpAnyH_take (i := 7) (oi := _) (v := ?v7) rfl (by kernel_rfl) (by kernel_rfl) (by kernel_rfl) (fun _ _ _ h => h) (Or.inl ⟨by rfl, ?y7⟩) (by assumption) ?r7
  case y7 => (intro W hSw; (try dsimp only at hSw); go_simp; try with_reducible rfl)
  (try simp only [Act.put, List.setIfInBounds_toArray, List.set_cons_zero, List.set_cons_succ])
  refine wpAnyH_ready (rs := [27]) (by kernel_rfl) (by simp) ?_
  refine AllReadyH.cons (o := _) rfl (fun K hK => ?s27) AllReadyH.nil
  ((with_reducible refine step_append_any _ rfl _ (.tmp 32) _ rfl w.heap.size 9 i0 _ 1 16 Tryz.underlying22 hi0 hz0 hz1 hz2 rfl (by omega) (.slice none 0 0) 0 [] rfl (nil_own _ _ _) w.heap.size (pA 0) (pn 0) (pc 0) _ rfl (Rp0.out.below Bb) (ones_strings _) (le_max (bp0.out)) (le_by (bp0.out)) Bb.size ?_); intro v1 w1 o1 g1 a1; have c1 := app_below g1; have t1 := app_row o1; have uc1 := t1.cells1; unfold Value.cells at uc1; have B1 := Bb.trans (c1.mono Bb.size); have D1 := Db.later c1; clear o1 g1 a1)
  refine hK.out _ _ ?k27 (fun hHeld28 => ?m27)
  case k27 => ((try dsimp only); exact cells12 D1)
  clear hK K hHeld7
  (try simp only [Act.put, List.setIfInBounds_toArray, List.set_cons_zero, List.set_cons_succ])
  refine wpAnyH_ready (rs := [31]) (by kernel_rfl) (by simp) ?_
  refine AllReadyH.cons (o := _) rfl (fun K hK => ?s31) AllReadyH.nil
  ((with_reducible refine step_append_any _ rfl _ (.tmp 36) _ rfl w.heap.size 9 i0 _ 1 16 Tryz.underlying22 hi0 hz0 hz1 hz2 rfl (by omega) (.slice none 0 0) 0 [] rfl (nil_own _ _ _) w.heap.size (eA 0) (en 0) (ec 0) _ rfl (Re0.out.below B1) (ones_strings _) (le_max (be0.out)) (le_by (be0.out)) B1.size ?_); intro v2 w2 o2 g2 a2; have c2 := app_below g2; have t2 := app_row o2; have uc2 := t2.cells1; unfold Value.cells at uc2; have B2 := B1.trans (c2.mono B1.size); have D2 := D1.later c2; clear o2 g2 a2)
  refine hK.out _ _ ?k31 (fun hHeld32 => ?m31)
  case k31 => ((try dsimp only); exact cells12 D2)
  clear hK K hHeld28
  (try simp only [Act.put, List.setIfInBounds_toArray, List.set_cons_zero, List.set_cons_succ])
  refine wpAnyH_ready (rs := [35]) (by kernel_rfl) (by simp) ?_
  refine AllReadyH.cons (o := _) rfl (fun K hK => ?s35) AllReadyH.nil
  go_simp
  (go_at_call 66; (with_reducible refine (X0.out _ B2).mono ?_); rintro e w3 ⟨v3, rfl, uc3, uo3, t3, c3⟩; unfold Value.cells at uc3; have B3 := B2.trans (c3.mono B2.size); have D3 := D2.later c3)
  (try go_wp2_with (fail))
  refine hK.out _ _ ?k35 (fun hHeld36 => ?m35)
  case k35 => ((try dsimp only); exact cells12 D3)
  clear hK K hHeld32
  (try simp only [Act.put, List.setIfInBounds_toArray, List.set_cons_zero, List.set_cons_succ])
  refine wpAnyH_ready (rs := [39]) (by kernel_rfl) (by simp) ?_
  refine AllReadyH.cons (o := _) rfl (fun K hK => ?s39) AllReadyH.nil
  go_simp
  (go_at_call 66; (with_reducible refine (X1.out _ B3).mono ?_); rintro e w4 ⟨v4, rfl, uc4, uo4, t4, c4⟩; unfold Value.cells at uc4; have B4 := B3.trans (c4.mono B3.size); have D4 := D3.later c4)
  (try go_wp2_with (fail))
  refine hK.out _ _ ?k39 (fun hHeld40 => ?m39)
  case k39 => ((try dsimp only); exact cells12 D4)
  clear hK K hHeld36
  (try simp only [Act.put, List.setIfInBounds_toArray, List.set_cons_zero, List.set_cons_succ])
  refine wpAnyH_ready (rs := [43]) (by kernel_rfl) (by simp) ?_
  refine AllReadyH.cons (o := _) rfl (fun K hK => ?s43) AllReadyH.nil
  ((with_reducible refine step_append_any _ rfl _ (.tmp 48) _ rfl w.heap.size 9 i0 _ 1 16 Tryz.underlying22 hi0 hz0 hz1 hz2 rfl (by omega) (.slice none 0 0) 0 [] rfl (nil_own _ _ _) w.heap.size (pA 1) (pn 1) (pc 1) _ rfl (Rp1.out.below B4) (ones_strings _) (le_max (bp1.out)) (le_by (bp1.out)) B4.size ?_); intro v5 w5 o5 g5 a5; have c5 := app_below g5; have t5 := app_row o5; have uc5 := t5.cells1; unfold Value.cells at uc5; have B5 := B4.trans (c5.mono B4.size); have D5 := D4.later c5; clear o5 g5 a5)
  refine hK.out _ _ ?k43 (fun hHeld44 => ?m43)
  case k43 => ((try dsimp only); exact cells12 D5)
  clear hK K hHeld40
  (try simp only [Act.put, List.setIfInBounds_toArray, List.set_cons_zero, List.set_cons_succ])
  refine wpAnyH_ready (rs := [47]) (by kernel_rfl) (by simp) ?_
  refine AllReadyH.cons (o := _) rfl (fun K hK => ?s47) AllReadyH.nil
  ((with_reducible refine step_append_any _ rfl _ (.tmp 52) _ rfl w.heap.size 9 i0 _ 1 16 Tryz.underlying22 hi0 hz0 hz1 hz2 rfl (by omega) (.slice none 0 0) 0 [] rfl (nil_own _ _ _) w.heap.size (eA 1) (en 1) (ec 1) _ rfl (Re1.out.below B5) (ones_strings _) (le_max (be1.out)) (le_by (be1.out)) B5.size ?_); intro v6 w6 o6 g6 a6; have c6 := app_below g6; have t6 := app_row o6; have uc6 := t6.cells1; unfold Value.cells at uc6; have B6 := B5.trans (c6.mono B5.size); have D6 := D5.later c6; clear o6 g6 a6)
  refine hK.out _ _ ?k47 (fun hHeld48 => ?m47)
  case k47 => ((try dsimp only); exact cells12 D6)
  clear hK K hHeld44
  (try simp only [Act.put, List.setIfInBounds_toArray, List.set_cons_zero, List.set_cons_succ])
  refine wpAnyH_ready (rs := [51]) (by kernel_rfl) (by simp) ?_
  refine AllReadyH.cons (o := _) rfl (fun K hK => ?s51) AllReadyH.nil
  ((with_reducible refine step_append_any _ rfl _ (.tmp 56) _ rfl w.heap.size 9 i0 _ 1 16 Tryz.underlying22 hi0 hz0 hz1 hz2 rfl (by omega) (.slice none 0 0) 0 [] rfl (nil_own _ _ _) w.heap.size (pA 2) (pn 2) (pc 2) _ rfl (Rp2.out.below B6) (ones_strings _) (le_max (bp2.out)) (le_by (bp2.out)) B6.size ?_); intro v7 w7 o7 g7 a7; have c7 := app_below g7; have t7 := app_row o7; have uc7 := t7.cells1; unfold Value.cells at uc7; have B7 := B6.trans (c7.mono B6.size); have D7 := D6.later c7; clear o7 g7 a7)
  refine hK.out _ _ ?k51 (fun hHeld52 => ?m51)
  case k51 => ((try dsimp only); exact cells12 D7)
  clear hK K hHeld48
  (try simp only [Act.put, List.setIfInBounds_toArray, List.set_cons_zero, List.set_cons_succ])
  refine wpAnyH_ready (rs := [55]) (by kernel_rfl) (by simp) ?_
  refine AllReadyH.cons (o := _) rfl (fun K hK => ?s55) AllReadyH.nil
  ((with_reducible refine step_append_any _ rfl _ (.tmp 60) _ rfl w.heap.size 9 i0 _ 1 16 Tryz.underlying22 hi0 hz0 hz1 hz2 rfl (by omega) (.slice none 0 0) 0 [] rfl (nil_own _ _ _) w.heap.size (eA 2) (en 2) (ec 2) _ rfl (Re2.out.below B7) (ones_strings _) (le_max (be2.out)) (le_by (be2.out)) B7.size ?_); intro v8 w8 o8 g8 a8; have c8 := app_below g8; have t8 := app_row o8; have uc8 := t8.cells1; unfold Value.cells at uc8; have B8 := B7.trans (c8.mono B7.size); have D8 := D7.later c8; clear o8 g8 a8)
  refine hK.out _ _ ?k55 (fun hHeld56 => ?m55)
  case k55 => ((try dsimp only); exact cells12 D8)
  clear hK K hHeld52
  (try simp only [Act.put, List.setIfInBounds_toArray, List.set_cons_zero, List.set_cons_succ])
  refine wpAnyH_ready (rs := [58]) (by kernel_rfl) (by simp) ?_
  refine AllReadyH.cons (o := _) rfl (fun K hK => ?s58) AllReadyH.nil
  ((with_reducible refine step_append_any _ rfl _ (.tmp 63) _ rfl w.heap.size 9 i0 _ 1 16 Tryz.underlying22 hi0 hz0 hz1 hz2 rfl (by omega) (.slice none 0 0) 0 [] rfl (nil_own _ _ _) w.heap.size (nA 0) (nn 0) (nc 0) _ rfl (Rn0.out.below B8) (ones_strings _) (le_max (bn0.out)) (le_by (bn0.out)) B8.size ?_); intro v9 w9 o9 g9 a9; have c9 := app_below g9; have t9 := app_row o9; have uc9 := t9.cells1; unfold Value.cells at uc9; have B9 := B8.trans (c9.mono B8.size); have D9 := D8.later c9; clear o9 g9 a9)
  refine hK.out _ _ ?k58 (fun hHeld59 => ?m58)
  case k58 => ((try dsimp only); exact cells12 D9)
  clear hK K hHeld56
  (try simp only [Act.put, List.setIfInBounds_toArray, List.set_cons_zero, List.set_cons_succ])
  refine wpAnyH_ready (rs := [61]) (by kernel_rfl) (by simp) ?_
  refine AllReadyH.cons (o := _) rfl (fun K hK => ?s61) AllReadyH.nil
  ((with_reducible refine step_append_any _ rfl _ (.tmp 66) _ rfl w.heap.size 9 i0 _ 1 16 Tryz.underlying22 hi0 hz0 hz1 hz2 rfl (by omega) (.slice none 0 0) 0 [] rfl (nil_own _ _ _) w.heap.size (nA 1) (nn 1) (nc 1) _ rfl (Rn1.out.below B9) (ones_strings _) (le_max (bn1.out)) (le_by (bn1.out)) B9.size ?_); intro v10 w10 o10 g10 a10; have c10 := app_below g10; have t10 := app_row o10; have uc10 := t10.cells1; unfold Value.cells at uc10; have B10 := B9.trans (c10.mono B9.size); have D10 := D9.later c10; clear o10 g10 a10)
  refine hK.out _ _ ?k61 (fun hHeld62 => ?m61)
  case k61 => ((try dsimp only); exact cells12 D10)
  clear hK K hHeld59
  (try simp only [Act.put, List.setIfInBounds_toArray, List.set_cons_zero, List.set_cons_succ])
  refine wpAnyH_ready (rs := [64]) (by kernel_rfl) (by simp) ?_
  refine AllReadyH.cons (o := _) rfl (fun K hK => ?s64) AllReadyH.nil
  ((with_reducible refine step_append_any _ rfl _ (.tmp 69) _ rfl w.heap.size 9 i0 _ 1 16 Tryz.underlying22 hi0 hz0 hz1 hz2 rfl (by omega) (.slice none 0 0) 0 [] rfl (nil_own _ _ _) w.heap.size (nA 2) (nn 2) (nc 2) _ rfl (Rn2.out.below B10) (ones_strings _) (le_max (bn2.out)) (le_by (bn2.out)) B10.size ?_); intro v11 w11 o11 g11 a11; have c11 := app_below g11; have t11 := app_row o11; have uc11 := t11.cells1; unfold Value.cells at uc11; have B11 := B10.trans (c11.mono B10.size); have D11 := D10.later c11; clear o11 g11 a11)
  refine hK.out _ _ ?k64 (fun hHeld65 => ?m64)
  case k64 => ((try dsimp only); exact cells12 D11)
  clear hK K hHeld62
  (try simp only [Act.put, List.setIfInBounds_toArray, List.set_cons_zero, List.set_cons_succ])
  refine wpAnyH_take (i := 65) (oi := _) (v := ?v65) rfl (by kernel_rfl) (by kernel_rfl) (by kernel_rfl) (fun _ _ _ h => h) (Or.inl ⟨by rfl, ?y65⟩) (by assumption) ?r65
  case y65 => (intro W hSw; (try dsimp only at hSw); go_simp; try with_reducible rfl)
  (try simp only [Act.put, List.setIfInBounds_toArray, List.set_cons_zero, List.set_cons_succ])
  refine wpAnyH_ready (rs := [66]) (by kernel_rfl) (by simp) ?_
  refine AllReadyH.cons (o := _) rfl (fun K hK => ?s66) AllReadyH.nil
  go_simp
  refine hK.out _ _ ?k66 (fun hHeld67 => ?m66)
  case k66 => ((try dsimp only); exact cells12 (D11.alloc _))
  clear hK K hHeld65
  (try simp only [Act.put, List.setIfInBounds_toArray, List.set_cons_zero, List.set_cons_succ])
  refine wpAnyH_take (i := 67) (oi := _) (v := ?v67) rfl (by kernel_rfl) (by kernel_rfl) (by kernel_rfl) (fun _ _ _ h => h) (Or.inl ⟨by rfl, ?y67⟩) (by assumption) ?r67
  case y67 => (intro W hSw; (try dsimp only at hSw); go_simp; try with_reducible rfl)
  (try simp only [Act.put, List.setIfInBounds_toArray, List.set_cons_zero, List.set_cons_succ])
  refine wpAnyH_done (by kernel_rfl) ?_ _
  refine NoPanic.normal ?_
  have A12 : Below w11.heap.size w11 (w11.alloc (.cells #[.bool bq2, .bool (someAny nn), v1, v2, v3, v4, v5, v6, v7, v8, v9, v10, v11, .slice none 0 0] 116)) := (Below.refl _ _).alloc (Nat.le_refl _) _
  have D12 := D11.alloc (.cells #[.bool bq2, .bool (someAny nn), v1, v2, v3, v4, v5, v6, v7, v8, v9, v10, v11, .slice none 0 0] 116)
  have F12 := Blk.new w11 116 #[.bool bq2, .bool (someAny nn), v1, v2, v3, v4, v5, v6, v7, v8, v9, v10, v11, .slice none 0 0]
  have s1 := (((((((((((t1).later c2).later c3).later c4).later c5).later c6).later c7).later c8).later c9).later c10).later c11).later A12
  have s2 := ((((((((((t2).later c3).later c4).later c5).later c6).later c7).later c8).later c9).later c10).later c11).later A12
  have s5 := (((((((t5).later c6).later c7).later c8).later c9).later c10).later c11).later A12
  have s6 := ((((((t6).later c7).later c8).later c9).later c10).later c11).later A12
  have s7 := (((((t7).later c8).later c9).later c10).later c11).later A12
  have s8 := ((((t8).later c9).later c10).later c11).later A12
  have s9 := (((t9).later c10).later c11).later A12
  have s10 := ((t10).later c11).later A12
  have s11 := (t11).later A12
  have s3 := P0.out _ _ _ (P0.out _ _ _ (P0.out _ _ _ (P0.out _ _ _ (P0.out _ _ _ (P0.out _ _ _ (P0.out _ _ _ (P0.out _ _ _ (P0.out _ _ _ (t3) c4) c5) c6) c7) c8) c9) c10) c11) A12
  have s4 := P1.out _ _ _ (P1.out _ _ _ (P1.out _ _ _ (P1.out _ _ _ (P1.out _ _ _ (P1.out _ _ _ (P1.out _ _ _ (P1.out _ _ _ (t4) c5) c6) c7) c8) c9) c10) c11) A12
  have z5 := D12.at_ 11 rfl
  have B12 := B11.trans (A12.mono B11.size)
  have S12 := B11.size
  generalize w11.alloc (.cells #[.bool bq2, .bool (someAny nn), v1, v2, v3, v4, v5, v6, v7, v8, v9, v10, v11, .slice none 0 0] 116) = w12 at *
  clear t1 uc1 B1 D1 c1 t2 uc2 B2 D2 c2 t3 uc3 B3 D3 c3 t4 uc4 B4 D4 c4 t5 uc5 B5 D5 c5 t6 uc6 B6 D6 c6 t7 uc7 B7 D7 c7 t8 uc8 B8 D8 c8 t9 uc9 B9 D9 c9 t10 uc10 B10 D10 c10 t11 uc11 B11 D11 c11 A12
  generalize w11.heap.size = C at *
  go_wp2
  go_loop [76] (fun i => i = .int .i64 0) (fun _ => 0)
  case atStart => rfl
  case round =>
    subst hrel
    go_wp2
    go_ret
    exact ⟨_, rfl, B12, S12, cv12 v1 v2 v3 v4 v5 v6 v7 v8 v9 v10 v11 (.slice none 0 0), F12, s1, s2, s3, s4, s5, s6, s7, s8, s9, s10, s11, rfl⟩
theorem certificate_calls (pA eA nA : Nat → Option Addr) (pn en nn pc ec nc : Nat → Nat) (pl el nl : Nat → List ByteArray) (φ0 φ1 : World → Value → Prop) (w : World) (hp : ∀ k, pn k ≤ 1000000) (he : ∀ k, en k ≤ 1000000) (hn : ∀ k, nn k ≤ 1000000)
    (hpR : ∀ k, k < 3 → Reads w w.heap.size 1 (pA k) (pn k) ((pl k).map .string)) (heR : ∀ k, k < 3 → Reads w w.heap.size 1 (eA k) (en k) ((el k).map .string)) (hnR : ∀ k, k < 3 → Reads w w.heap.size 1 (nA k) (nn k) ((nl k).map .string))
    (hN0 : ∀ W, Below w.heap.size w W → Calls Tryz.prog 66 #[.slice (pA 3) (pn 3) (pc 3)] W (Makes φ0 W)) (hN1 : ∀ W, Below w.heap.size w W → Calls Tryz.prog 66 #[.slice (eA 3) (en 3) (ec 3)] W (Makes φ1 W))
    (hφ0 : ∀ W W' v, φ0 W v → Below W.heap.size W W' → φ0 W' v) (hφ1 : ∀ W W' v, φ1 W v → Below W.heap.size W W' → φ1 W' v) (hn3 : nn 3 = 0) :
    Calls Tryz.prog 54 #[certV (fun k => .slice (pA k) (pn k) (pc k)) (fun k => .slice (eA k) (en k) (ec k)) (fun k => .slice (nA k) (nn k) (nc k))] w fun e w' =>
      ∃ C, e = .returned (.pointer (some ⟨C, 0, none⟩)) ∧ Below w.heap.size w w' ∧ w.heap.size ≤ C ∧ ∃ cv, CertMade pl el nl φ0 φ1 (fun v => v = .slice none 0 0) (someAny pn || someAny en) (someAny nn) w' C cv := by
  cases h : someAny pn with
  | true => exact h ▸ certificate_true pA eA nA pn en nn pc ec nc pl el nl φ0 φ1 w hp he hn hpR heR hnR hN0 hN1 hφ0 hφ1 hn3 h
  | false => exact h ▸ certificate_false pA eA nA pn en nn pc ec nc pl el nl φ0 φ1 w hp he hn hpR heR hnR hN0 hN1 hφ0 hφ1 hn3 h
end Go.Proofs.YtblabjfjhlablaaGreatDoor
