/- Chains of two certificates in general, names of one and constraints of the other; the walk of alone. -/
import Derived.Test.YtblabjfjhlablaaGreatDoorW43
import Derived.Test.YtblabjfjhlablaaGreatDoorW25
namespace Go.Proofs.YtblabjfjhlablaaGreatDoor
open Go.RowKit Nc
def GC.leaf (c : GC) : GC := { p := fun _ => [], e := fun _ => [], s := c.s, pn := [], en := [], ad := c.ad }
def GC.by_ (c : GC) : GC := { p := c.p, e := c.e, s := fun _ => [], pn := c.pn, en := c.en, ad := [] }
def nilSlots : GSlots := { pA := fun _ => none, eA := fun _ => none, fA := fun _ => none, pc := fun _ => 0, ec := fun _ => 0, fc := fun _ => 0 }
def GSlots.leaf (z : GSlots) : GSlots := { nilSlots with fA := z.fA, fc := z.fc }
def GSlots.by_ (z : GSlots) : GSlots := { nilSlots with pA := z.pA, pc := z.pc, eA := z.eA, ec := z.ec }
theorem gRefused_two (X : IpKit) (a b : GC) : gRefused X (two a b) 2 ↔ gBad X a b = true := by
  constructor
  · rintro ⟨i, j, h1, h2, h3⟩
    obtain rfl : i = 0 := by omega
    obtain rfl : j = 1 := by omega
    exact h3
  · intro h
    exact ⟨0, 1, by omega, by omega, h⟩
theorem gBad_eq (X : IpKit) (c : GC) : gBad X c.leaf c.by_ = gBad X c c := rfl
theorem len4_nil (k : Nat) : len4 (fun _ => []) 0 k = 0 := by
  match k with
  | 0 => rfl
  | 1 => rfl
  | 2 => rfl
  | k + 3 => rfl
theorem GC.Ok.leaf {X : IpKit} {c : GC} (h : c.Ok X) (hn : X.okN []) : c.leaf.Ok X :=
  ⟨fun _ _ c hc => by simp [GC.leaf] at hc, fun _ _ c hc => by simp [GC.leaf] at hc, h.dns, h.box, h.host, hn, hn, h.ad, fun k => by show len4 (fun _ => []) 0 k ≤ _; rw [len4_nil]; omega, fun k => by show len4 (fun _ => []) 0 k ≤ _; rw [len4_nil]; omega, h.ls⟩
theorem GC.Ok.by_ {X : IpKit} {c : GC} (h : c.Ok X) : c.by_.Ok X :=
  ⟨h.p, h.e, fun s hs => by simp [GC.by_] at hs, fun s hs => by simp [GC.by_] at hs, fun s hs => by simp [GC.by_] at hs, h.pn, h.en, fun s hs => by simp [GC.by_] at hs, h.lp, h.le, fun k => by show len4 (fun _ => []) 0 k ≤ _; rw [len4_nil]; omega⟩
/-- The cells of the two. -/
def cells24 (pA eA fA : Nat → Option Addr) (pn en fn pc ec fc : Nat → Nat) : Array Value := #[.slice none 0 0, .slice none 0 0, .slice none 0 0, .slice none 0 0, .slice none 0 0, .slice none 0 0, .slice none 0 0, .slice none 0 0, .slice (fA 0) (fn 0) (fc 0), .slice (fA 1) (fn 1) (fc 1), .slice (fA 2) (fn 2) (fc 2), .slice (fA 3) (fn 3) (fc 3), .slice (pA 0) (pn 0) (pc 0), .slice (pA 1) (pn 1) (pc 1), .slice (pA 2) (pn 2) (pc 2), .slice (pA 3) (pn 3) (pc 3), .slice (eA 0) (en 0) (ec 0), .slice (eA 1) (en 1) (ec 1), .slice (eA 2) (en 2) (ec 2), .slice (eA 3) (en 3) (ec 3), .slice none 0 0, .slice none 0 0, .slice none 0 0, .slice none 0 0]
theorem cells24_at (pA eA fA : Nat → Option Addr) (pn en fn pc ec fc : Nat → Nat) (k j : Nat) (hk : k < 2) (hj : j < 4) :
    (cells24 pA eA fA pn en fn pc ec fc)[k * 12 + j]? = some (if k = 1 then .slice (pA j) (pn j) (pc j) else nilS) ∧ (cells24 pA eA fA pn en fn pc ec fc)[k * 12 + (4 + j)]? = some (if k = 1 then .slice (eA j) (en j) (ec j) else nilS) ∧ (cells24 pA eA fA pn en fn pc ec fc)[k * 12 + (8 + j)]? = some (if k = 0 then .slice (fA j) (fn j) (fc j) else nilS) := by
  have hk2 : k = 0 ∨ k = 1 := by omega
  have hj2 : j = 0 ∨ j = 1 ∨ j = 2 ∨ j = 3 := by omega
  rcases hk2 with rfl | rfl <;> rcases hj2 with rfl | rfl | rfl | rfl <;> exact ⟨rfl, rfl, rfl⟩
theorem gTwo_calls (X : IpKit) (hX : X.Fit) (c : GC) (z : GSlots) (g cap : Nat) (w : World) (hL : Laid w) (hg : Blk w g 30 (cells24 z.pA z.eA z.fA (len4 c.p c.pn.length) (len4 c.e c.en.length) (len4 c.s c.ad.length) z.pc z.ec z.fc))
    (hok : c.Ok X) (hn : X.okN []) (hC1 : ∀ W, Below w.heap.size w W → GCertCalls X c.leaf z.leaf W) (hC2 : ∀ W, Below w.heap.size w W → GCertCalls X c.by_ z.by_ W) :
    Calls Tryz.prog 21 #[.slice (some ⟨g, 0, none⟩) 2 cap] w fun x w' => x = .returned (.int .i64 (codeB (gBad X c c))) ∧ Below w.heap.size w w' := by
  refine gChain_calls X hX (two c.leaf c.by_) (two z.leaf z.by_) 2 cap (some ⟨g, 0, none⟩) w hL (by omega) (by omega) (fun i hi => ?_) (fun _ => ⟨g, 0, rfl, fun k hk j hj => ?_⟩) (fun i hi W hW => ?_) _ ?_
  · have : i = 0 ∨ i = 1 := by omega
    rcases this with rfl | rfl
    · exact hok.leaf hn
    · exact hok.by_
  · obtain ⟨h1, h2, h3⟩ := cells24_at z.pA z.eA z.fA (len4 c.p c.pn.length) (len4 c.e c.en.length) (len4 c.s c.ad.length) z.pc z.ec z.fc k j hk hj
    have c1 := hg.at_ _ h1
    have c2 := hg.at_ _ h2
    have c3 := hg.at_ _ h3
    simp only [Nat.zero_add]
    have hk2 : k = 0 ∨ k = 1 := by omega
    rcases hk2 with rfl | rfl
    · refine ⟨c1.trans ?_, c2.trans ?_, c3⟩
      · show some nilS = some (.slice none (len4 (fun _ => []) 0 j) 0)
        rw [len4_nil]; rfl
      · show some nilS = some (.slice none (len4 (fun _ => []) 0 j) 0)
        rw [len4_nil]; rfl
    · refine ⟨c1, c2, c3.trans ?_⟩
      show some nilS = some (.slice none (len4 (fun _ => []) 0 j) 0)
      rw [len4_nil]; rfl
  · have : i = 0 ∨ i = 1 := by omega
    rcases this with rfl | rfl
    · exact hC1 W hW
    · exact hC2 W hW
  · rw [← gBad_eq]
    exact (gRefused_two _ _ _).symm
set_option maxRecDepth 100000 in
theorem alone_walk (pA eA fA : Nat → Option Addr) (pn en fn pc ec fc : Nat → Nat) (R : Bool) (w : World) (hL : Laid w)
    (h2 : ∀ g W, Below w.heap.size w W → Blk W g 30 (cells24 pA eA fA pn en fn pc ec fc) → Calls Tryz.prog 21 #[.slice (some ⟨g, 0, none⟩) 2 2] W fun x w' => x = .returned (.int .i64 (codeB R)) ∧ Below W.heap.size W w') :
    Calls Tryz.prog 14 #[cval pA eA fA pn en fn pc ec fc, .int .i64 (codeB R)] w fun x w' => x = .returned (.bool true) ∧ Below w.heap.size w w' := by
  have H1 := Lib.hid (fun W (hW : Below w.heap.size w W) => refusedChain_calls W (hL.keep hW))
  have H2 := Lib.hid h2
  clear hL h2
  unfold cval
  go_enter Tryz.func14, Tryz.ntmps14
  go_wp2_with (fail)
  have hb1 : Below w.heap.size w (w.alloc (.cells #[.slice (pA 0) (pn 0) (pc 0), .slice (pA 1) (pn 1) (pc 1), .slice (pA 2) (pn 2) (pc 2), .slice (pA 3) (pn 3) (pc 3), .slice (eA 0) (en 0) (ec 0), .slice (eA 1) (en 1) (ec 1), .slice (eA 2) (en 2) (ec 2), .slice (eA 3) (en 3) (ec 3), .slice (fA 0) (fn 0) (fc 0), .slice (fA 1) (fn 1) (fc 1), .slice (fA 2) (fn 2) (fc 2), .slice (fA 3) (fn 3) (fc 3)] 30)) := (Below.refl _ _).alloc (Nat.le_refl _) _
  have hz1 : (w.alloc (.cells #[.slice (pA 0) (pn 0) (pc 0), .slice (pA 1) (pn 1) (pc 1), .slice (pA 2) (pn 2) (pc 2), .slice (pA 3) (pn 3) (pc 3), .slice (eA 0) (en 0) (ec 0), .slice (eA 1) (en 1) (ec 1), .slice (eA 2) (en 2) (ec 2), .slice (eA 3) (en 3) (ec 3), .slice (fA 0) (fn 0) (fc 0), .slice (fA 1) (fn 1) (fc 1), .slice (fA 2) (fn 2) (fc 2), .slice (fA 3) (fn 3) (fc 3)] 30)).heap.size = w.heap.size + 1 := Array.size_push _
  generalize w.alloc (.cells #[.slice (pA 0) (pn 0) (pc 0), .slice (pA 1) (pn 1) (pc 1), .slice (pA 2) (pn 2) (pc 2), .slice (pA 3) (pn 3) (pc 3), .slice (eA 0) (en 0) (ec 0), .slice (eA 1) (en 1) (ec 1), .slice (eA 2) (en 2) (ec 2), .slice (eA 3) (en 3) (ec 3), .slice (fA 0) (fn 0) (fc 0), .slice (fA 1) (fn 1) (fc 1), .slice (fA 2) (fn 2) (fc 2), .slice (fA 3) (fn 3) (fc 3)] 30) = W1 at *
  have hb2 := hb1.alloc hb1.size (.cells #[.slice none 0 0, .slice none 0 0, .slice none 0 0, .slice none 0 0, .slice none 0 0, .slice none 0 0, .slice none 0 0, .slice none 0 0, .slice (fA 0) (fn 0) (fc 0), .slice (fA 1) (fn 1) (fc 1), .slice (fA 2) (fn 2) (fc 2), .slice (fA 3) (fn 3) (fc 3)] 30)
  have hz2 : (W1.alloc (.cells #[.slice none 0 0, .slice none 0 0, .slice none 0 0, .slice none 0 0, .slice none 0 0, .slice none 0 0, .slice none 0 0, .slice none 0 0, .slice (fA 0) (fn 0) (fc 0), .slice (fA 1) (fn 1) (fc 1), .slice (fA 2) (fn 2) (fc 2), .slice (fA 3) (fn 3) (fc 3)] 30)).heap.size = w.heap.size + 1 + 1 := by rw [← hz1]; exact Array.size_push _
  have hl := Blk.new W1 30 #[.slice none 0 0, .slice none 0 0, .slice none 0 0, .slice none 0 0, .slice none 0 0, .slice none 0 0, .slice none 0 0, .slice none 0 0, .slice (fA 0) (fn 0) (fc 0), .slice (fA 1) (fn 1) (fc 1), .slice (fA 2) (fn 2) (fc 2), .slice (fA 3) (fn 3) (fc 3)]
  rw [hz1] at hl
  generalize W1.alloc (.cells #[.slice none 0 0, .slice none 0 0, .slice none 0 0, .slice none 0 0, .slice none 0 0, .slice none 0 0, .slice none 0 0, .slice none 0 0, .slice (fA 0) (fn 0) (fc 0), .slice (fA 1) (fn 1) (fc 1), .slice (fA 2) (fn 2) (fc 2), .slice (fA 3) (fn 3) (fc 3)] 30) = W2 at *
  have hb3 := hb2.alloc hb2.size (.cells #[.slice (pA 0) (pn 0) (pc 0), .slice (pA 1) (pn 1) (pc 1), .slice (pA 2) (pn 2) (pc 2), .slice (pA 3) (pn 3) (pc 3), .slice (eA 0) (en 0) (ec 0), .slice (eA 1) (en 1) (ec 1), .slice (eA 2) (en 2) (ec 2), .slice (eA 3) (en 3) (ec 3), .slice none 0 0, .slice none 0 0, .slice none 0 0, .slice none 0 0] 30)
  have hl3 := hl.alloc (.cells #[.slice (pA 0) (pn 0) (pc 0), .slice (pA 1) (pn 1) (pc 1), .slice (pA 2) (pn 2) (pc 2), .slice (pA 3) (pn 3) (pc 3), .slice (eA 0) (en 0) (ec 0), .slice (eA 1) (en 1) (ec 1), .slice (eA 2) (en 2) (ec 2), .slice (eA 3) (en 3) (ec 3), .slice none 0 0, .slice none 0 0, .slice none 0 0, .slice none 0 0] 30)
  have hr := Blk.new W2 30 #[.slice (pA 0) (pn 0) (pc 0), .slice (pA 1) (pn 1) (pc 1), .slice (pA 2) (pn 2) (pc 2), .slice (pA 3) (pn 3) (pc 3), .slice (eA 0) (en 0) (ec 0), .slice (eA 1) (en 1) (ec 1), .slice (eA 2) (en 2) (ec 2), .slice (eA 3) (en 3) (ec 3), .slice none 0 0, .slice none 0 0, .slice none 0 0, .slice none 0 0]
  rw [hz2] at hr
  generalize W2.alloc (.cells #[.slice (pA 0) (pn 0) (pc 0), .slice (pA 1) (pn 1) (pc 1), .slice (pA 2) (pn 2) (pc 2), .slice (pA 3) (pn 3) (pc 3), .slice (eA 0) (en 0) (ec 0), .slice (eA 1) (en 1) (ec 1), .slice (eA 2) (en 2) (ec 2), .slice (eA 3) (en 3) (ec 3), .slice none 0 0, .slice none 0 0, .slice none 0 0, .slice none 0 0] 30) = W3 at *
  clear hb1 hb2 hz1 hz2 hl
  refine (H1.out W3 hb3).mono ?_
  rintro x w1 ⟨rfl, b1⟩
  have hl4 := hl3.later b1
  have hr4 := hr.later b1
  have hB := hb3.trans (b1.mono hb3.size)
  clear hb3 hl3 hr b1 H1
  have x0 := hl4.at_ 0 rfl
  have y0 := hr4.at_ 0 rfl
  have x1 := hl4.at_ 1 rfl
  have y1 := hr4.at_ 1 rfl
  have x2 := hl4.at_ 2 rfl
  have y2 := hr4.at_ 2 rfl
  have x3 := hl4.at_ 3 rfl
  have y3 := hr4.at_ 3 rfl
  have x4 := hl4.at_ 4 rfl
  have y4 := hr4.at_ 4 rfl
  have x5 := hl4.at_ 5 rfl
  have y5 := hr4.at_ 5 rfl
  have x6 := hl4.at_ 6 rfl
  have y6 := hr4.at_ 6 rfl
  have x7 := hl4.at_ 7 rfl
  have y7 := hr4.at_ 7 rfl
  have x8 := hl4.at_ 8 rfl
  have y8 := hr4.at_ 8 rfl
  have x9 := hl4.at_ 9 rfl
  have y9 := hr4.at_ 9 rfl
  have x10 := hl4.at_ 10 rfl
  have y10 := hr4.at_ 10 rfl
  have x11 := hl4.at_ 11 rfl
  have y11 := hr4.at_ 11 rfl
  have hg := Blk.new w1 30 (cells24 pA eA fA pn en fn pc ec fc)
  have hB2 := hB.alloc hB.size (.cells (cells24 pA eA fA pn en fn pc ec fc) 30)
  have hq := H2.out w1.heap.size _ hB2 hg
  unfold cells24 at hq hB2
  have HQ := Lib.hid hq
  have HB2 := Lib.hid hB2
  clear hq hB2 hg H2 hl4 hr4 hB
  have hcode : (codeB R == 0) = !R := by cases R <;> rfl
  go_wp2_with (fail)
  refine HQ.out.mono ?_
  rintro x w2 ⟨rfl, b2⟩
  have hB3 := HB2.out.trans (b2.mono HB2.out.size)
  clear HQ HB2 b2
  go_wp2
  go_ret
  exact ⟨by cases R <;> rfl, hB3⟩
theorem gAlone_calls (X : IpKit) (hX : X.Fit) (c : GC) (z : GSlots) (w : World) (hL : Laid w) (hok : c.Ok X) (hn : X.okN []) (hC1 : ∀ W, Below w.heap.size w W → GCertCalls X c.leaf z.leaf W) (hC2 : ∀ W, Below w.heap.size w W → GCertCalls X c.by_ z.by_ W) :
    Calls Tryz.prog 14 #[cval z.pA z.eA z.fA (len4 c.p c.pn.length) (len4 c.e c.en.length) (len4 c.s c.ad.length) z.pc z.ec z.fc, .int .i64 (codeB (gBad X c c))] w fun x w' => x = .returned (.bool true) ∧ Below w.heap.size w w' :=
  alone_walk _ _ _ _ _ _ _ _ _ _ w hL fun g W hW hg => gTwo_calls X hX c z g 2 W (hL.keep hW) hg hok hn (fun V hV => hC1 V (hW.trans (hV.mono hW.size))) (fun V hV => hC2 V (hW.trans (hV.mono hW.size)))
/-- No networks, no addresses. -/
def X0 : IpKit where
  lies := fun l _ v => l = [] ∧ v = .slice none 0 0
  is := fun l _ v => l = [] ∧ v = .nilIface
  row := fun l _ v => l = [] ∧ v = .slice none 0 0
  ask := fun _ _ => none
  okN := fun l => l = []
  okA := fun _ => False
theorem X0_fit : X0.Fit where
  liesLater := fun _ _ _ _ h _ => h
  liesKeeps := fun _ _ _ _ h _ => h
  rowLater := fun _ _ _ _ h _ => h
  rowKeeps := fun _ _ _ _ h _ => h
  isKeep := fun _ _ _ _ h _ => h
  made := fun l w v _ h => by
    obtain ⟨rfl, rfl⟩ := h
    refine (newIP_nil none 0 w).mono ?_
    rintro e w' ⟨rfl, rfl⟩
    exact makes_true ⟨rfl, rfl⟩ (Below.refl _ _)
  askNil := fun _ => rfl
  check := fun ty p e ad v a0 a1 w _ _ _ ha hv _ _ => by
    obtain ⟨rfl, rfl⟩ := hv
    exact ⟨fun _ => .nilIface, ⟨none, 0, rfl, fun h => absurd h (by simp)⟩, fun k hk => absurd hk (by simp), fun k hk => absurd hk (by simp)⟩
/-- certificate, where there are no networks and no addresses. -/
theorem X0_cert (c : GC) (z : GSlots) (w : World) (hok : c.Ok X0) (hp : ∀ k, k < 3 → Reads w w.heap.size 1 (z.pA k) (c.p k).length ((c.p k).map .string)) (he : ∀ k, k < 3 → Reads w w.heap.size 1 (z.eA k) (c.e k).length ((c.e k).map .string)) (hs : ∀ k, k < 3 → Reads w w.heap.size 1 (z.fA k) (c.s k).length ((c.s k).map .string)) :
    GCertCalls X0 c z w := by
  have e1 : c.pn = [] := hok.pn
  have e2 : c.en = [] := hok.en
  have e3 : c.ad = [] := List.eq_nil_iff_forall_not_mem.2 fun a ha => hok.ad a ha
  have l3 : ∀ (l : Nat → List ByteArray) (n k : Nat), k < 3 → len4 l n k = (l k).length := fun l n k hk => by
    match k with
    | 0 => rfl
    | 1 => rfl
    | 2 => rfl
    | k + 3 => omega
  unfold GCertCalls
  refine (certificate_calls z.pA z.eA z.fA (len4 c.p c.pn.length) (len4 c.e c.en.length) (len4 c.s c.ad.length) z.pc z.ec z.fc c.p c.e c.s (X0.lies c.pn) (X0.lies c.en) w hok.lp hok.le hok.ls
    (fun k hk => by rw [l3 _ _ k hk]; exact hp k hk) (fun k hk => by rw [l3 _ _ k hk]; exact he k hk) (fun k hk => by rw [l3 _ _ k hk]; exact hs k hk)
    (fun W _ => ?_) (fun W _ => ?_) (fun _ _ _ h _ => h) (fun _ _ _ h _ => h) (by show c.ad.length = 0; rw [e3]; rfl)).mono ?_
  · have : len4 c.p c.pn.length 3 = 0 := by show c.pn.length = 0; rw [e1]; rfl
    rw [this]
    refine (networks_nil _ _ W).mono ?_
    rintro e w' ⟨rfl, rfl⟩
    exact ⟨_, rfl, rfl, rfl, ⟨e1, rfl⟩, Below.refl _ _⟩
  · have : len4 c.e c.en.length 3 = 0 := by show c.en.length = 0; rw [e2]; rfl
    rw [this]
    refine (networks_nil _ _ W).mono ?_
    rintro e w' ⟨rfl, rfl⟩
    exact ⟨_, rfl, rfl, rfl, ⟨e2, rfl⟩, Below.refl _ _⟩
  · rintro e w' ⟨C, rfl, hb, _, cv, h1, h2, h3, h4, h5, h6, h7, h8, h9, h10, h11, h12, h13⟩
    exact ⟨C, rfl, hb, cv, h1, h2, h3, h4, h5, h6, h7, h8, h9, h10, h11, h12, ⟨e3, h13⟩⟩
end Go.Proofs.YtblabjfjhlablaaGreatDoor
