/- The walks of ZZCheckChain and of impl's Chain, over what certificates come to. -/
import Derived.Test.YtblabjfjhlablaaGreatDoorW14
namespace Go.Proofs.YtblabjfjhlablaaGreatDoor
open Go.RowKit Nc
theorem nil_own0 (w : World) (base : Nat) (e : TypeId) : w.ownsRow base e 1 (.slice none 0 0) 0 [] := ⟨by simp, .inl ⟨rfl, rfl⟩⟩
theorem ptr_info : (Tryz.prog.info? 66).map (fun i => (i.zero, i.size, i.bytes)) = some (some (.pointer none), 1, 8) := by kernel_rfl
theorem own_later {w w' : World} {base n size : Nat} {e : TypeId} {v : Value} {xs : List Value} (h : w.ownsRow base e size v n xs) (hb : Below w.heap.size w w') : w'.ownsRow base e size v n xs := by
  obtain ⟨h1, h2⟩ := h
  refine ⟨h1, ?_⟩
  rcases h2 with h2 | ⟨g, cap, cur, h3, h4, hh, hr⟩
  · exact .inl h2
  · have hlt : g < w.heap.size := by
      rcases Nat.lt_or_ge g w.heap.size with hlt | hge
      · exact hlt
      · rw [Array.getElem?_eq_none hge] at hh; cases hh
    exact .inr ⟨g, cap, cur, h3, h4, (hb.block g hlt).trans hh, hr⟩
/-- All stands as it was but blocks of type t. -/
structure Keeps (t : TypeId) (w w' : World) : Prop where
  size : w.heap.size ≤ w'.heap.size
  block : ∀ k, k < w.heap.size → (∀ cs fr, w.heap[k]? ≠ some (.cells cs t fr)) → w'.heap[k]? = w.heap[k]?
theorem Keeps.of_below {t : TypeId} {w w' : World} (h : Below w.heap.size w w') : Keeps t w w' := ⟨h.size, fun k hk _ => h.block k hk⟩
theorem Keeps.of_grown {t : TypeId} {w w' : World} {base n size : Nat} {v : Value} {xs : List Value} (h : w.ownsRow base t size v n xs) (hg : w.grownBy w' v.ownBlock) : Keeps t w w' := by
  refine ⟨hg.size, fun k hk hne => hg.block k hk (fun e => ?_)⟩
  rcases h.2 with ⟨rfl, _⟩ | ⟨g, cap, cur, rfl, _, hh, _⟩
  · simp [Value.ownBlock] at e
  · simp only [Value.ownBlock, Option.some.injEq] at e
    subst e
    exact hne _ _ hh
theorem Keeps.trans {t : TypeId} {a b c : World} (h : Keeps t a b) (k : Keeps t b c) : Keeps t a c :=
  ⟨Nat.le_trans h.size k.size, fun i hi hn => (k.block i (Nat.lt_of_lt_of_le hi h.size) (fun cs fr => by rw [h.block i hi hn]; exact hn cs fr)).trans (h.block i hi hn)⟩
theorem Keeps.blk {t : TypeId} {w w' : World} (h : Keeps t w w') {g : Nat} {u : TypeId} {cs : Array Value} (hb : Blk w g u cs) (ht : u ≠ t) : Blk w' g u cs :=
  (h.block g hb.lt (fun cs' fr e => by unfold Blk at hb; rw [hb] at e; injection e with e; injection e with _ e; exact ht e)).trans hb
theorem Keeps.srow {t : TypeId} {w w' : World} (h : Keeps t w w') {u : TypeId} {v : Value} {xs : List Value} (hr : SRow w u v xs) (ht : u ≠ t) : SRow w' u v xs := by
  rcases hr with hr | ⟨g, cap, cur, h1, h2, h3⟩
  · exact .inl hr
  · exact .inr ⟨g, cap, cur, h1, h.blk h2 ht, h3⟩
theorem zzChain_calls (u : Value) (w : World) (R : Bool) (h : Calls Tryz.prog 86 #[u] w (Says R w)) : Calls Tryz.prog 55 #[u] w (Says R w) := by
  have H := Lib.hid h
  clear h
  go_enter Tryz.func55, Tryz.ntmps55
  go_wp2_with (fail)
  refine H.out.mono ?_
  rintro e w1 ⟨v, rfl, hb, hs⟩
  go_wp2
  go_ret
  exact ⟨_, rfl, hb, hs⟩
/-- The code that is told: 1 where a refusal is. -/
def codeB (R : Bool) : Int := if R then 1 else 0
theorem codeOf_b (v : Value) (bad : Bool) (w : World) (h : (bad = false ∧ v = .nilIface) ∨ (bad = true ∧ IsRefusal w v)) : Calls Tryz.prog 39 #[v] w fun e w' => e = .returned (.int .i64 (codeB bad)) ∧ w = w' := codeOf_calls v bad w h
/-- A slice of certificates as the caller's memory holds it: twelve cells each. -/
def CertsAt (w : World) (A : Option Addr) (n : Nat) (p e f : Nat → Nat → Value) : Prop :=
  0 < n → ∃ g off, A = some ⟨g, off, none⟩ ∧ ∀ k, k < n → ∀ j, j < 4 → w.cell? ⟨g, off + k * 12 + j, none⟩ = some (p k j) ∧ w.cell? ⟨g, off + k * 12 + (4 + j), none⟩ = some (e k j) ∧ w.cell? ⟨g, off + k * 12 + (8 + j), none⟩ = some (f k j)
/-- A certificate's value, of its twelve slices. -/
def cval (pA eA fA : Nat → Option Addr) (pn en fn pc ec fc : Nat → Nat) : Value :=
  .agg #[.slice (pA 0) (pn 0) (pc 0), .slice (pA 1) (pn 1) (pc 1), .slice (pA 2) (pn 2) (pc 2), .slice (pA 3) (pn 3) (pc 3), .slice (eA 0) (en 0) (ec 0), .slice (eA 1) (en 1) (ec 1), .slice (eA 2) (en 2) (ec 2), .slice (eA 3) (en 3) (ec 3),
    .slice (fA 0) (fn 0) (fc 0), .slice (fA 1) (fn 1) (fc 1), .slice (fA 2) (fn 2) (fc 2), .slice (fA 3) (fn 3) (fc 3)]
set_option maxRecDepth 100000 in
set_option maxHeartbeats 2000000 in
theorem chain_calls (A : Option Addr) (n c : Nat) (pA eA fA : Nat → Nat → Option Addr) (pn en fn pc ec fc : Nat → Nat → Nat) (G : Nat → Nat → World → Prop) (w : World)
    (hA : CertsAt w A n (fun k j => .slice (pA k j) (pn k j) (pc k j)) (fun k j => .slice (eA k j) (en k j) (ec k j)) (fun k j => .slice (fA k j) (fn k j) (fc k j))) (hn : n ≤ 100000) (R : Bool)
    (hG : ∀ i C W W', G i C W → Keeps 66 W W' → G i C W')
    (hC : ∀ i, i < n → ∀ W, Below w.heap.size w W → Calls Tryz.prog 54 #[cval (pA i) (eA i) (fA i) (pn i) (en i) (fn i) (pc i) (ec i) (fc i)] W fun e W' => ∃ C, e = .returned (.pointer (some ⟨C, 0, none⟩)) ∧ Below W.heap.size W W' ∧ G i C W')
    (hX : ∀ W v (C : Nat → Nat), Below w.heap.size w W → (∀ i, i < n → G i (C i) W) → SRow W 66 v ((List.range n).map fun i => .pointer (some ⟨C i, 0, none⟩)) → Calls Tryz.prog 86 #[v] W (Says R W)) :
    Calls Tryz.prog 21 #[.slice A n c] w fun e w' => e = .returned (.int .i64 (codeB R)) ∧ Below w.heap.size w w' := by
  obtain ⟨i0, hi0, hz0, hz1, hz2⟩ := info_parts ptr_info
  have HA := Lib.hid hA
  have HG := Lib.hid hG
  have HC := Lib.hid hC
  have HX := Lib.hid hX
  clear hA hG hC hX
  go_enter Tryz.func21, Tryz.ntmps21
  go_wp2
  go_loopw [3, 8] (fun o i wr => ∃ (k : Nat) (C : Nat → Nat), i = .int .i64 k ∧ k ≤ n ∧ Below w.heap.size w wr ∧ wr.ownsRow w.heap.size 66 1 o k ((List.range k).map fun i => .pointer (some ⟨C i, 0, none⟩)) ∧ Hid (∀ i, i < k → G i (C i) wr)) (fun _ i _ => n - (intOf i).toNat)
  case atStart => exact ⟨0, fun _ => 0, rfl, Nat.zero_le _, Below.refl _ _, nil_own0 _ _ _, fun i h => absurd h (Nat.not_lt_zero _)⟩
  case round =>
    obtain ⟨k, C, rfl, hk, hbr, hown, hGs⟩ := hrel
    by_cases hlt : k < n
    · obtain ⟨g, off, rfl, hcell⟩ := HA.out (by omega)
      have hcl := HC.out k hlt
      unfold cval at hcl
      obtain ⟨p00, e00, f00⟩ := hcell k hlt 0 (by omega)
      obtain ⟨p01, e01, f01⟩ := hcell k hlt 1 (by omega)
      obtain ⟨p02, e02, f02⟩ := hcell k hlt 2 (by omega)
      obtain ⟨p03, e03, f03⟩ := hcell k hlt 3 (by omega)
      clear hcell
      have P0 := cell_keep hbr p00
      have P1 := cell_keep hbr p01
      have P2 := cell_keep hbr p02
      have P3 := cell_keep hbr p03
      have E0 := cell_keep hbr e00
      have E1 := cell_keep hbr e01
      have E2 := cell_keep hbr e02
      have E3 := cell_keep hbr e03
      have F0 := cell_keep hbr f00
      have F1 := cell_keep hbr f01
      have F2 := cell_keep hbr f02
      have F3 := cell_keep hbr f03
      clear p00 p01 p02 p03 e00 e01 e02 e03 f00 f01 f02 f03
      have HCL := Lib.hid hcl
      clear hcl
      simp only [Nat.add_zero] at P0 E0 F0
      go_wp2_with (fail)
      refine (HCL.out _ (hbr.alloc hbr.size _)).mono ?_
      rintro e w1 ⟨Ck, rfl, b1, g1⟩
      have bA := (Below.refl wr.heap.size wr).alloc (Nat.le_refl _) (.cells #[.slice (pA k 0) (pn k 0) (pc k 0), .slice (pA k 1) (pn k 1) (pc k 1), .slice (pA k 2) (pn k 2) (pc k 2), .slice (pA k 3) (pn k 3) (pc k 3), .slice (eA k 0) (en k 0) (ec k 0), .slice (eA k 1) (en k 1) (ec k 1), .slice (eA k 2) (en k 2) (ec k 2), .slice (eA k 3) (en k 3) (ec k 3),
        .slice (fA k 0) (fn k 0) (fc k 0), .slice (fA k 1) (fn k 1) (fc k 1), .slice (fA k 2) (fn k 2) (fc k 2), .slice (fA k 3) (fn k 3) (fc k 3)] 30)
      have b2 : Below wr.heap.size wr w1 := bA.trans (b1.mono bA.size)
      have hb1 := hbr.trans (b2.mono hbr.size)
      have hown1 := own_later hown b2
      have hGs1 : Hid (∀ i, i < k → G i (C i) w1) := fun i hi => HG.out _ _ _ _ (hGs.out i hi) (.of_below b2)
      have hG1 := Lib.hid g1
      clear bA b1 b2 hown hGs g1 hbr P0 P1 P2 P3 E0 E1 E2 E3 F0 F1 F2 F3 HCL
      have hb2 := hb1.alloc hb1.size (.cells #[.pointer (some ⟨Ck, 0, none⟩)] 66)
      have hown2 := hown1.alloc (.cells #[.pointer (some ⟨Ck, 0, none⟩)] 66)
      have hnb := Blk.new w1 66 #[.pointer (some ⟨Ck, 0, none⟩)]
      have hA2 : Below w1.heap.size w1 (w1.alloc (.cells #[.pointer (some ⟨Ck, 0, none⟩)] 66)) := (Below.refl _ _).alloc (Nat.le_refl _) _
      have hrd : Reads (w1.alloc (.cells #[.pointer (some ⟨Ck, 0, none⟩)] 66)) (w1.heap.size + 1) 1 (some ⟨w1.heap.size, 0, none⟩) 1 [.pointer (some ⟨Ck, 0, none⟩)] := ⟨rfl, fun _ => ⟨_, rfl, Nat.lt_succ_self _, fun j u hu => by
        cases j with
        | zero =>
          simp only [List.getElem?_cons_zero, Option.some.injEq] at hu
          subst hu
          exact hnb.at_ 0 rfl
        | succ j => simp at hu⟩⟩
      go_wp2_with (first
        | (at_builtin
           refine wpList_append_any _ rfl _ (.tmp 15) _ rfl w.heap.size 66 i0 _ 1 8 Tryz.underlying65 hi0 hz0 hz1 hz2 rfl (by omega) u3 k _ rfl hown2 (w1.heap.size + 1) (some ⟨w1.heap.size, 0, none⟩) 1 1 _ rfl hrd (by simp [Value.oneCell']) (by simp only [maxLen]; omega) (by omega) hb2.size ?_
           intro v1 w2 hown3 hg3 hat3))
      have hk3 : Keeps 66 w1 w2 := (Keeps.of_below hA2).trans (Keeps.of_grown hown2 hg3)
      have hb3 : Below w.heap.size w w2 := hb2.grown hg3 hb2.size (fun q hq => (hown2.lt q hq).1)
      have hrow : w2.ownsRow w.heap.size 66 1 v1 (k + 1) ((List.range (k + 1)).map fun i => .pointer (some ⟨if i = k then Ck else C i, 0, none⟩)) := by
        rw [List.range_succ, List.map_append]
        have e1 : (List.range k).map (fun i => Value.pointer (some ⟨if i = k then Ck else C i, 0, none⟩)) = (List.range k).map (fun i => Value.pointer (some ⟨C i, 0, none⟩)) := List.map_congr_left fun i hi => by
          have := List.mem_range.1 hi
          rw [if_neg (by omega)]
        rw [e1]
        simpa using hown3
      have hGn : Hid (∀ i, i < k + 1 → G i (if i = k then Ck else C i) w2) := fun i hi => by
        by_cases e : i = k
        · subst e; rw [if_pos rfl]; exact HG.out _ _ _ _ hG1.out hk3
        · rw [if_neg e]; exact HG.out _ _ _ _ (hGs1.out i (by omega)) hk3
      clear hat3 hg3 hown3 hown2 hrd hnb hA2 hown1 hGs1 hG1 hk3 hb1 hb2
      go_roundw
      case rel => exact ⟨k + 1, _, by go_num, by omega, hb3, hrow, hGn⟩
      case measure => simp only [intOf]; omega
    · obtain rfl : k = n := by omega
      have hch := HX.out wr u3 C hbr hGs.out (SRow.of_own hown)
      have hzz := zzChain_calls u3 wr R hch
      clear hch
      have HZ := Lib.hid hzz
      clear hzz hown hGs
      go_wp2_with (fail)
      refine HZ.out.mono ?_
      rintro e w1 ⟨v, rfl, hb, hs⟩
      have hbb := hbr.trans (hb.mono hbr.size)
      have hco := Lib.hid (codeOf_b v R w1 hs)
      clear hs hb HZ
      go_wp2_with (fail)
      refine hco.out.mono ?_
      rintro e w2 ⟨rfl, rfl⟩
      go_wp2
      go_ret
      exact ⟨rfl, hbb⟩
end Go.Proofs.YtblabjfjhlablaaGreatDoor
