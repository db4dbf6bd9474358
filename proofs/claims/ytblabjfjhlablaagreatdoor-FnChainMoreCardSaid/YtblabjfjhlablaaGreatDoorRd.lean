/- certificate, networks and addresses and all. -/
import Derived.Test.YtblabjfjhlablaaGreatDoorCa
import Derived.Test.YtblabjfjhlablaaGreatDoorCb
import Derived.Test.YtblabjfjhlablaaGreatDoorXp
import Derived.Test.YtblabjfjhlablaaGreatDoorS6
import Derived.Test.YtblabjfjhlablaaGreatDoorRw
import Derived.Deep.Slices
import Derived.ChangeArms
namespace Go.Proofs.YtblabjfjhlablaaGreatDoor
open Go.RowKit Go.Sort Nc
theorem certificateX_calls (pA eA nA : Nat → Option Addr) (pn en nn pc ec nc : Nat → Nat) (pl el nl : Nat → List ByteArray) (φ0 φ1 : World → Value → Prop) (w : World) (hp : ∀ k, pn k ≤ 1000000) (he : ∀ k, en k ≤ 1000000) (hn : ∀ k, nn k ≤ 1000000)
    (hpR : ∀ k, k < 3 → Reads w w.heap.size 1 (pA k) (pn k) ((pl k).map .string)) (heR : ∀ k, k < 3 → Reads w w.heap.size 1 (eA k) (en k) ((el k).map .string)) (hnR : ∀ k, k < 3 → Reads w w.heap.size 1 (nA k) (nn k) ((nl k).map .string))
    (hN0 : ∀ W, Below w.heap.size w W → Calls Tryz.prog 66 #[.slice (pA 3) (pn 3) (pc 3)] W (Makes φ0 W)) (hN1 : ∀ W, Below w.heap.size w W → Calls Tryz.prog 66 #[.slice (eA 3) (en 3) (ec 3)] W (Makes φ1 W))
    (hφ0 : ∀ W W' v, φ0 W v → Keeps2 W W' → φ0 W' v) (hφ1 : ∀ W W' v, φ1 W v → Keeps2 W W' → φ1 W' v) (ad : List (List UInt8)) (hn3 : nn 3 = ad.length) (hok : ∀ a ∈ ad, addrB a = true) (hAd : AddrsRd w (nA 3) ad) :
    Calls Tryz.prog 54 #[certV (fun k => .slice (pA k) (pn k) (pc k)) (fun k => .slice (eA k) (en k) (ec k)) (fun k => .slice (nA k) (nn k) (nc k))] w fun e w' =>
      ∃ C, e = .returned (.pointer (some ⟨C, 0, none⟩)) ∧ Below w.heap.size w w' ∧ w.heap.size ≤ C ∧ ∃ cv, CertMade pl el nl φ0 φ1 (AddrRow ad w') (someAny pn || someAny en) (someAny nn) w' C cv := by
  cases h : someAny pn with
  | true => exact h ▸ certificateX_true pA eA nA pn en nn pc ec nc pl el nl φ0 φ1 w hp he hn hpR heR hnR hN0 hN1 hφ0 hφ1 ad hn3 hok hAd h
  | false => exact h ▸ certificateX_false pA eA nA pn en nn pc ec nc pl el nl φ0 φ1 w hp he hn hpR heR hnR hN0 hN1 hφ0 hφ1 ad hn3 hok hAd h
theorem XIP_cert (c : GC) (z : GSlots) (w : World) (hok : c.Ok XIP) (hp : ∀ k, k < 3 → Reads w w.heap.size 1 (z.pA k) (c.p k).length ((c.p k).map .string)) (he : ∀ k, k < 3 → Reads w w.heap.size 1 (z.eA k) (c.e k).length ((c.e k).map .string)) (hs : ∀ k, k < 3 → Reads w w.heap.size 1 (z.fA k) (c.s k).length ((c.s k).map .string))
    (hP : NetsRd w (z.pA 3) c.pn) (hE : NetsRd w (z.eA 3) c.en) (hA : AddrsRd w (z.fA 3) c.ad) : GCertCalls XIP c z w := by
  have l3 : ∀ (l : Nat → List ByteArray) (n k : Nat), k < 3 → len4 l n k = (l k).length := fun l n k hk => by
    match k with
    | 0 => rfl
    | 1 => rfl
    | 2 => rfl
    | k + 3 => omega
  unfold GCertCalls
  refine (certificateX_calls z.pA z.eA z.fA (len4 c.p c.pn.length) (len4 c.e c.en.length) (len4 c.s c.ad.length) z.pc z.ec z.fc c.p c.e c.s (XIP.lies c.pn) (XIP.lies c.en) w hok.lp hok.le hok.ls
    (fun k hk => by rw [l3 _ _ k hk]; exact hp k hk) (fun k hk => by rw [l3 _ _ k hk]; exact he k hk) (fun k hk => by rw [l3 _ _ k hk]; exact hs k hk)
    (fun W hW => ?_) (fun W hW => ?_) (fun _ _ _ h hk => NetsLie.keeps2 h hk) (fun _ _ _ h hk => NetsLie.keeps2 h hk) c.ad rfl hok.ad hA).mono ?_
  · exact networks_calls (z.pA 3) c.pn (z.pc 3) W (hP.later hW) hok.pn.2 hok.pn.1
  · exact networks_calls (z.eA 3) c.en (z.ec 3) W (hE.later hW) hok.en.2 hok.en.1
  · rintro e w' ⟨C, rfl, hb, _, cv, hm⟩
    exact ⟨C, rfl, hb, cv, hm⟩
end Go.Proofs.YtblabjfjhlablaaGreatDoor
/- Chains as the caller's memory holds them; the walk of FnChainOwn. -/
namespace Go.Proofs.YtblabjfjhlablaaGreatDoor
open Go.RowKit Go.Sort Nc
theorem CertRd.cert {w : World} {z : GSlots} {c : GC} (h : CertRd w z c) (hok : c.Ok XIP) : GCertCalls XIP c z w :=
  XIP_cert c z w hok h.p.t h.e.t h.s h.p.n h.e.n h.a
structure ChainRd (w : World) (A : Option Addr) (n : Nat) (cs : Nat → GC) (zs : Nat → GSlots) : Prop where
  at_ : CertsAt w A n (fun k j => (zs k).p (cs k) j) (fun k j => (zs k).e (cs k) j) (fun k j => (zs k).f (cs k) j)
  each : ∀ k, k < n → CertRd w (zs k) (cs k)
theorem CertsAt.later {w w' : World} {A : Option Addr} {n : Nat} {p e f : Nat → Nat → Value} (h : CertsAt w A n p e f) (hb : Below w.heap.size w w') : CertsAt w' A n p e f := fun hn => by
  obtain ⟨g, off, e1, h1⟩ := h hn
  exact ⟨g, off, e1, fun k hk j hj => by
    obtain ⟨q0, q1, q2⟩ := h1 k hk j hj
    exact ⟨cell_keep hb q0, cell_keep hb q1, cell_keep hb q2⟩⟩
theorem ChainRd.later {w w' : World} {A : Option Addr} {n : Nat} {cs : Nat → GC} {zs : Nat → GSlots} (h : ChainRd w A n cs zs) (hb : Below w.heap.size w w') : ChainRd w' A n cs zs :=
  ⟨h.at_.later hb, fun k hk => (h.each k hk).later hb⟩
theorem xChain_calls (cs : Nat → GC) (zs : Nat → GSlots) (n c : Nat) (A : Option Addr) (w : World) (hL : Laid w) (hn : n ≤ 100000) (hn0 : 0 < n) (hok : ∀ i, i < n → (cs i).Ok XIP) (h : ChainRd w A n cs zs) (R : Bool) (hR : R = true ↔ gRefused XIP cs n) :
    Calls Tryz.prog 21 #[.slice A n c] w fun e w' => e = .returned (.int .i64 (codeB R)) ∧ Below w.heap.size w w' :=
  gChain_calls XIP XIP_fit cs zs n c A w hL hn hn0 hok h.at_ (fun i hi _ hW => ((h.each i hi).later hW).cert (hok i hi)) R hR
/-- One certificate's cells, as one of a chain. -/
theorem CertsAt.one {w : World} {g : Nat} {z : GSlots} {c : GC} (h : Blk w g 30 (z.cells c)) : CertsAt w (some ⟨g, 0, none⟩) 1 (fun _ j => z.p c j) (fun _ j => z.e c j) (fun _ j => z.f c j) := fun _ => by
  refine ⟨g, 0, rfl, fun k hk j hj => ?_⟩
  obtain rfl : k = 0 := by omega
  simp only [Nat.zero_mul, Nat.zero_add]
  match j, hj with
  | 0, _ => exact ⟨h.at_ 0 rfl, h.at_ 4 rfl, h.at_ 8 rfl⟩
  | 1, _ => exact ⟨h.at_ 1 rfl, h.at_ 5 rfl, h.at_ 9 rfl⟩
  | 2, _ => exact ⟨h.at_ 2 rfl, h.at_ 6 rfl, h.at_ 10 rfl⟩
  | 3, _ => exact ⟨h.at_ 3 rfl, h.at_ 7 rfl, h.at_ 11 rfl⟩
theorem codeB_false : codeB false = 0 := rfl
set_option maxRecDepth 100000 in
set_option maxHeartbeats 2000000 in
theorem fnChainOwn_calls (z : GSlots) (c : GC) (w : World) (hL : Laid w) (h : CertRd w z c) (hs : CertSz 9000000000000000000 c) :
    Calls Tryz.prog 5 #[z.val c] w fun e w' => e = .returned (.bool true) ∧ Below w.heap.size w w' := by
  have hC : Blk (w.alloc (.cells (z.cells c) 30)) w.heap.size 30 (z.cells c) := Blk.new _ _ _
  have hb0 : Below w.heap.size w (w.alloc (.cells (z.cells c) 30)) := (Below.refl _ _).alloc (Nat.le_refl _) _
  have KF := Lib.hid (fun (W : World) (hW : Below w.heap.size w W) => fits2_calls z c W (h.later hW) hs)
  have KO := Lib.hid (fun (hz : CertSz 2147483647 c) (W : World) (hW : Below w.heap.size w W) => certOk_calls z c W (h.later hW) hz)
  have KR := Lib.hid (fun (W : World) (hW : Below w.heap.size w W) => refusedChain_calls W (hL.keep hW))
  have KC := Lib.hid (fun (hok : certB c = true) (W : World) (hW : Below w.heap.size w W) => xChain_calls (fun _ => c) (fun _ => z) 1 1 (some ⟨W.heap.size, 0, none⟩) (W.alloc (.cells (z.cells c) 30)) (hL.keep (hW.alloc hW.size _)) (by omega) (by omega) (fun _ _ => (certB_ok hok).1) ⟨CertsAt.one (Blk.new _ _ _), fun _ _ => (h.later hW).later ((Below.refl _ _).alloc (Nat.le_refl _) _)⟩ false ⟨(fun h => by cases h), fun ⟨i, j, h1, h2, _⟩ => by omega⟩)
  clear h hs hL
  unfold GSlots.val cval len4 at *
  unfold GSlots.cells at *
  rw [codeB_false] at KC
  simp only at *
  generalize certB c = B at *
  have HC := Lib.hid hC
  clear hC
  obtain ⟨d0, d1, d2, d3, d4, d5, d6, d7, d8, d9, d10, d11, e5, e6, e7⟩ := cells12 HC.out
  cases B with
  | true =>
    have KC2 := Lib.hid (KC.out rfl)
    clear KC
    go_enter Tryz.func5, Tryz.ntmps5
    go_wp2_with (first
      | (go_at_call 18; (with_reducible refine (KF.out _ hb0).mono ?_); rintro e w1 ⟨q1, rfl, hb1, f1⟩; have HF1 := Lib.hid f1; clear f1; have B1 := hb0.trans (hb1.mono hb0.size); have HC1 := Lib.hid (HC.out.later hb1); obtain ⟨f0, f1, f2, f3, f4, f5, f6, f7, f8, f9, f10, f11, fe5, fe6, fe7⟩ := cells12 HC1.out; cases q1)
      | (go_at_call 19; (with_reducible refine (KO.out (HF1.out (by first | rfl | trivial)) _ B1).mono ?_); rintro e w2 ⟨rfl, hb2⟩; have B2 := B1.trans (hb2.mono B1.size); have HC2 := Lib.hid (HC1.out.later hb2); obtain ⟨g0, g1, g2, g3, g4, g5, g6, g7, g8, g9, g10, g11, ge5, ge6, ge7⟩ := cells12 HC2.out)
      | (go_at_call 20; (with_reducible refine (KR.out _ B2).mono ?_); rintro e w3 ⟨rfl, hb3⟩; have B3 := B2.trans (hb3.mono B2.size); have HC3 := Lib.hid (HC2.out.later hb3); obtain ⟨h0, h1, h2, h3, h4, h5, h6, h7, h8, h9, h10, h11, he5, he6, he7⟩ := cells12 HC3.out)
      | (go_at_call 21; (with_reducible refine (KC2.out _ B3).mono ?_); rintro e w4 ⟨rfl, hb4⟩; have bx := B3.alloc B3.size (.cells #[.slice (z.pA 0) (c.p 0).length (z.pc 0), .slice (z.pA 1) (c.p 1).length (z.pc 1), .slice (z.pA 2) (c.p 2).length (z.pc 2), .slice (z.pA 3) c.pn.length (z.pc 3), .slice (z.eA 0) (c.e 0).length (z.ec 0), .slice (z.eA 1) (c.e 1).length (z.ec 1), .slice (z.eA 2) (c.e 2).length (z.ec 2), .slice (z.eA 3) c.en.length (z.ec 3), .slice (z.fA 0) (c.s 0).length (z.fc 0), .slice (z.fA 1) (c.s 1).length (z.fc 1), .slice (z.fA 2) (c.s 2).length (z.fc 2), .slice (z.fA 3) c.ad.length (z.fc 3)] 30); have B4 := bx.trans (hb4.mono bx.size))
      | fail)
    all_goals go_ret
    all_goals first
      | exact ⟨rfl, B4⟩
      | exact ⟨rfl, B1⟩
  | false =>
    clear KC
    go_enter Tryz.func5, Tryz.ntmps5
    go_wp2_with (first
      | (go_at_call 18; (with_reducible refine (KF.out _ hb0).mono ?_); rintro e w1 ⟨q1, rfl, hb1, f1⟩; have HF1 := Lib.hid f1; clear f1; have B1 := hb0.trans (hb1.mono hb0.size); have HC1 := Lib.hid (HC.out.later hb1); obtain ⟨f0, f1, f2, f3, f4, f5, f6, f7, f8, f9, f10, f11, fe5, fe6, fe7⟩ := cells12 HC1.out; cases q1)
      | (go_at_call 19; (with_reducible refine (KO.out (HF1.out (by first | rfl | trivial)) _ B1).mono ?_); rintro e w2 ⟨rfl, hb2⟩; have B2 := B1.trans (hb2.mono B1.size))
      | fail)
    all_goals go_ret
    all_goals first
      | exact ⟨rfl, B2⟩
      | exact ⟨rfl, B1⟩
end Go.Proofs.YtblabjfjhlablaaGreatDoor
/- Certificates that came in, as the walks want them. -/
namespace Go.Proofs.YtblabjfjhlablaaGreatDoor
open Go.ChangeShapes Go.WideShapes Go.ChangeAt Go.RowKit Go.Deep Go.Sort Nc
theorem spot_none {w : World} {a : Addr} {v : Value} (h : w.cell? a = some v) : ∃ g off, a = ⟨g, off, none⟩ := by
  obtain ⟨g, off, sp⟩ := a
  unfold World.cell? at h
  cases sp with
  | none => exact ⟨g, off, rfl⟩
  | some x => simp at h; split at h <;> simp at h
theorem add_none (g off n : Nat) : (⟨g, off, none⟩ : Addr).add n = ⟨g, off + n, none⟩ := by
  unfold Addr.add
  split
  · subst_vars; rfl
  · rfl
section
variable {H : Type} {enc : TypeId × Value → H} {W : World}
/-- Every weight of a datum is within reach. -/
def Light (t : TypeId) (d : DataW H) : Prop := ∀ n ∈ d.weights Tryz.prog t, n ≤ reachBytes
theorem light_slice {t e : TypeId} {el sp : List (DataW H)} (hu : Tryz.prog.underlying t = some (.slice e)) (h : Light t (.slice el sp)) : el.length * Tryz.prog.bytesOf e ≤ reachBytes ∧ ∀ d ∈ el, Light e d := by
  unfold Light at h
  simp only [DataW.weights, hu] at h
  refine ⟨?_, fun d hd n hn => h n (List.mem_cons_of_mem _ (List.mem_append_left _ (mem_weightsAll hd hn)))⟩
  have := h _ (List.mem_cons_self ..)
  exact Nat.le_trans (Nat.mul_le_mul_right _ (Nat.le_add_right _ _)) this
theorem light_struct {t : TypeId} {fs : Array Field} {parts : List (DataW H)} (hu : Tryz.prog.underlying t = some (.struct fs)) (h : Light t (.agg parts)) {j : Nat} {f : Field} {d : DataW H} (hf : fs[j]? = some f) (hd : parts[j]? = some d) : Light f.type d := by
  unfold Light at h
  simp only [DataW.weights, hu] at h
  exact fun n hn => h n (DataW.weights_mem_each (j := j) (by rw [List.getElem?_map, Array.getElem?_toList, hf]; rfl) hd n hn)
theorem bytes5 : Tryz.prog.bytesOf 5 = 1 := by kernel_rfl
theorem cells5 : Tryz.prog.cellsOf 5 = 1 := by kernel_rfl
theorem bytes43 : Tryz.prog.bytesOf 43 = 24 := by kernel_rfl
theorem cells43 : Tryz.prog.cellsOf 43 = 1 := by kernel_rfl
theorem bytes72 : Tryz.prog.bytesOf 72 = 48 := by kernel_rfl
theorem cells72 : Tryz.prog.cellsOf 72 = 2 := by kernel_rfl
theorem cells22 : Tryz.prog.cellsOf 22 = 1 := by kernel_rfl
theorem cells25 : Tryz.prog.cellsOf 25 = 1 := by kernel_rfl
theorem cells28 : Tryz.prog.cellsOf 28 = 1 := by kernel_rfl
theorem cells27 : Tryz.prog.cellsOf 27 = 4 := by kernel_rfl
theorem bytes30 : Tryz.prog.bytesOf 30 = 288 := by kernel_rfl
theorem cells30 : Tryz.prog.cellsOf 30 = 12 := by kernel_rfl
def lim : Nat := 9000000000000000000
theorem reach_lim {n b : Nat} (h : n * b ≤ reachBytes) (hb : 0 < b) : n ≤ 9000000000000000000 := by
  have h1 : reachBytes ≤ 9000000000000000000 := by decide
  have h2 : n * 1 ≤ n * b := Nat.mul_le_mul_left n hb
  omega
theorem read_txt {fuel : Nat} {cs : List Value} {x : DataW H × List MemPlace} (hf : DataW.trod enc Tryz.prog W 0 (fun _ => true) true fuel 22 cs = some x) (hl : Light 22 x.1) :
    ∃ A c l, cs = [.slice A (List.length l) c] ∧ Reads W W.heap.size 1 A l.length (l.map .string) ∧ l.length ≤ 9000000000000000000 ∧ ∀ y ∈ l, y.size ≤ 9000000000000000000 := by
  have hb : reachBytes ≤ 9000000000000000000 := by decide
  have hs : ∃ A n c, cs = [.slice A n c] := by
    rcases open_strings Tryz.underlying22 Tryz.underlying9 cells9 hf with ⟨h, _⟩ | ⟨a, len, cap, ss, h, _⟩
    · exact ⟨_, _, _, h⟩
    · exact ⟨_, _, _, h⟩
  obtain ⟨A, n, c, rfl⟩ := hs
  obtain ⟨Xs, h1, h2, h3, h4⟩ := open_txt hf hl
  subst h1
  exact ⟨A, c, Xs, rfl, h2, by omega, fun y hy => by have := h3 y hy; omega⟩
theorem read_bytes {fuel : Nat} {cs : List Value} {x : DataW H × List MemPlace} (hf : DataW.trod enc Tryz.prog W 0 (fun _ => true) true fuel 43 cs = some x) (hl : Light 43 x.1) :
    ∃ A c l, cs = [.slice A (List.length l) c] ∧ Byt W A l ∧ l.length ≤ 9000000000000000000 := by
  rcases open_ints Tryz.underlying43 Tryz.underlying5 cells5 hf with ⟨rfl, _⟩ | ⟨a, len, cap, zs, rfl, _, h1, h2, h3, rfl, h4, h5⟩
  · exact ⟨none, 0, [], rfl, .none_, Nat.zero_le _⟩
  · simp only [if_true] at h3
    have hw := (light_slice Tryz.underlying43 hl).1
    rw [bytes5] at hw
    have hlen : (zs.take len).length = len := by rw [List.length_take]; omega
    refine ⟨some a, cap, (zs.take len).map fun z => UInt8.ofNat z.toNat, by rw [List.length_map, hlen], ⟨by simp, fun h0 => ⟨a, rfl, ?_, fun j u hu => ?_⟩⟩, ?_⟩
    · have := World.block_lt_of_cell? W _ (h4 0 (by rw [List.length_map, hlen] at h0; omega))
      rwa [block_of_add] at this
    · rw [List.map_map, List.getElem?_map, Option.map_eq_some_iff] at hu
      obtain ⟨z, hz, rfl⟩ := hu
      have hj : j < len := by have := (List.getElem?_eq_some_iff.1 hz).1; omega
      rw [List.getElem?_take_of_lt hj] at hz
      have hc := h4 j (by omega)
      have hzz : zs.getD j 0 = z := by simp [List.getD, hz]
      rw [hzz] at hc
      have hwf := h5 z (List.mem_of_getElem? hz)
      have hr : 0 ≤ z ∧ z < 256 := by
        simp [Lit.wf, IntKind.min, IntKind.max, IntKind.signed, IntKind.bits] at hwf
        omega
      have e : b8 (UInt8.ofNat z.toNat) = .int .u8 z := by
        unfold b8
        have : (UInt8.ofNat z.toNat).toNat = z.toNat := by simp; omega
        rw [this]
        congr 1
        omega
      simp only [Function.comp, e]
      exact hc
    · rw [List.length_map, hlen]
      have : (lits (H := H) IntKind.u8 (zs.take len)).length = len := by simp [lits]; omega
      rw [this] at hw
      exact reach_lim hw (by omega)
/-- A row of what is n cells wide, opened. -/
theorem read_row {t e : TypeId} (ht : Tryz.prog.underlying t = some (.slice e)) (hb : 0 < Tryz.prog.bytesOf e) {fuel : Nat} {cs : List Value} {x : DataW H × List MemPlace} (hf : DataW.trod enc Tryz.prog W 0 (fun _ => true) true fuel t cs = some x) (hl : Light t x.1) :
    ∃ A n c, cs = [.slice A n c] ∧ n ≤ 9000000000000000000 ∧ (0 < n → ∃ a, A = some a ∧ ∀ i, i < n → ∃ (k : Nat) (cs' : List Value) (y : DataW H × List MemPlace), cs'.length = Tryz.prog.cellsOf e ∧ (∀ j, j < Tryz.prog.cellsOf e → W.cell? ((a.add (i * Tryz.prog.cellsOf e)).add j) = cs'[j]?) ∧
      DataW.trod enc Tryz.prog W 0 (fun _ => true) true k e cs' = some y ∧ Light e y.1) := by
  rcases open_slice ht hf with ⟨rfl, _⟩ | ⟨a, len, cap, m, n, D, Pl, rfl, _, h1, h2, h3, rfl, h4⟩
  · exact ⟨none, 0, 0, rfl, Nat.zero_le _, fun h => absurd h (by omega)⟩
  · simp only [if_true] at h3
    have hw := light_slice ht hl
    rw [List.length_map, List.length_range] at hw
    refine ⟨some a, len, cap, rfl, reach_lim hw.1 hb, fun _ => ⟨a, rfl, fun i hi => ?_⟩⟩
    obtain ⟨cs', q1, q2⟩ := h4 i (by omega)
    obtain ⟨_, q3, q4⟩ := World.cells?_some q1
    exact ⟨n, cs', _, q3, q4, q2, hw.2 _ (List.mem_map.2 ⟨i, List.mem_range.2 hi, rfl⟩)⟩
/-- Choices, one for each index. -/
theorem chosen {α : Type} [Inhabited α] {n : Nat} {p : Nat → α → Prop} (h : ∀ i, i < n → ∃ x, p i x) : ∃ f : Nat → α, ∀ i, i < n → p i (f i) := by
  refine ⟨fun i => if hi : i < n then Classical.choose (h i hi) else default, fun i hi => ?_⟩
  simp only [hi, dite_true]
  exact Classical.choose_spec (h i hi)
theorem list2 {α : Type} {l : List α} (h : l.length = 2) : ∃ a b, l = [a, b] := by
  match l, h with
  | [a, b], _ => exact ⟨a, b, rfl⟩
theorem read_net {fuel : Nat} {cs : List Value} {x : DataW H × List MemPlace} (hf : DataW.trod enc Tryz.prog W 0 (fun _ => true) true fuel 72 cs = some x) (hl : Light 72 x.1) :
    ∃ (A M : Option Addr) (ca cm : Nat) (n : NetV), cs = [.slice A n.1.length ca, .slice M n.2.length cm] ∧ Byt W A n.1 ∧ Byt W M n.2 ∧ n.1.length ≤ 9000000000000000000 ∧ n.2.length ≤ 9000000000000000000 := by
  obtain ⟨xs, n, _, rfl, h1, h2, h3⟩ := DataW.trod_struct Tryz.underlying72 hf
  rw [cells72] at h1
  obtain ⟨v0, v1, rfl⟩ := list2 h1
  obtain ⟨y0, y1, rfl⟩ := list2 (show xs.length = 2 from h2)
  have g0 : DataW.trod enc Tryz.prog W 0 (fun _ => true) true n 43 (([v0, v1].drop 0).take (Tryz.prog.cellsOf 43)) = some y0 := h3 0 _ rfl
  have g1 : DataW.trod enc Tryz.prog W 0 (fun _ => true) true n 43 (([v0, v1].drop 1).take (Tryz.prog.cellsOf 43)) = some y1 := h3 1 _ rfl
  rw [cells43] at g0 g1
  obtain ⟨A, ca, l, e0, b0, s0⟩ := read_bytes (x := y0) (by simpa using g0) (light_struct (j := 0) Tryz.underlying72 hl rfl rfl)
  obtain ⟨M, cm, m, e1, b1, s1⟩ := read_bytes (x := y1) (by simpa using g1) (light_struct (j := 1) Tryz.underlying72 hl rfl rfl)
  simp at e0 e1
  subst e0 e1
  exact ⟨A, M, ca, cm, (l, m), rfl, b0, b1, s0, s1⟩
theorem read_nets {fuel : Nat} {cs : List Value} {x : DataW H × List MemPlace} (hf : DataW.trod enc Tryz.prog W 0 (fun _ => true) true fuel 25 cs = some x) (hl : Light 25 x.1) :
    ∃ (A : Option Addr) (c : Nat) (l : List NetV), cs = [.slice A l.length c] ∧ NetsRd W A l ∧ l.length ≤ 9000000000000000000 ∧ ∀ n ∈ l, n.1.length ≤ 9000000000000000000 ∧ n.2.length ≤ 9000000000000000000 := by
  obtain ⟨A, n, c, rfl, hn, h⟩ := read_row Tryz.underlying25 (by rw [bytes72]; omega) hf hl
  have hx : ∀ i, i < n → ∃ q : Option Addr × Option Addr × Nat × Nat × NetV, (∃ a, A = some a ∧ W.cell? ((a.add (i * 2)).add 0) = some (.slice q.1 q.2.2.2.2.1.length q.2.2.1) ∧ W.cell? ((a.add (i * 2)).add 1) = some (.slice q.2.1 q.2.2.2.2.2.length q.2.2.2.1)) ∧
      Byt W q.1 q.2.2.2.2.1 ∧ Byt W q.2.1 q.2.2.2.2.2 ∧ q.2.2.2.2.1.length ≤ 9000000000000000000 ∧ q.2.2.2.2.2.length ≤ 9000000000000000000 := fun i hi => by
    obtain ⟨a, ha, h'⟩ := h (by omega)
    subst ha
    obtain ⟨k, cs', y, h1, h2, h3, h4⟩ := h' i hi
    obtain ⟨P, M, ca, cm, m, rfl, b0, b1, s0, s1⟩ := read_net h3 h4
    rw [cells72] at h2
    exact ⟨(P, M, ca, cm, m), ⟨a, rfl, h2 0 (by omega), h2 1 (by omega)⟩, b0, b1, s0, s1⟩
  obtain ⟨f, hf⟩ := chosen hx
  have hlen : ((List.range n).map fun i => (f i).2.2.2.2).length = n := by simp
  have hget : ∀ k, k < n → ((List.range n).map fun i => (f i).2.2.2.2).getD k ([], []) = (f k).2.2.2.2 := fun k hk => by simp [hk]
  refine ⟨A, c, (List.range n).map fun i => (f i).2.2.2.2, by rw [hlen], ⟨fun i => (f i).1, fun i => (f i).2.1, fun i => (f i).2.2.1, fun i => (f i).2.2.2.1, fun h0 => ?_, fun k hk => ?_⟩, by rw [hlen]; exact hn, fun m hm => ?_⟩
  · rw [hlen] at h0
    obtain ⟨a, rfl, c0, _⟩ := (hf 0 h0).1
    obtain ⟨g, off, rfl⟩ := spot_none (a := a) (by simpa [Addr.add] using c0)
    refine ⟨g, off, rfl, fun k hk => ?_⟩
    rw [hlen] at hk
    obtain ⟨a, e, c0, c1⟩ := (hf k hk).1
    injection e with e
    subst e
    simp only [hget k hk]
    simp only [add_none] at c0 c1
    exact ⟨c0, c1⟩
  · rw [hlen] at hk
    simp only [List.getElem_map, List.getElem_range]
    exact ⟨(hf k hk).2.1, (hf k hk).2.2.1⟩
  · obtain ⟨i, hi, rfl⟩ := List.mem_map.1 hm
    exact ⟨(hf i (List.mem_range.1 hi)).2.2.2.1, (hf i (List.mem_range.1 hi)).2.2.2.2⟩
theorem read_addrs {fuel : Nat} {cs : List Value} {x : DataW H × List MemPlace} (hf : DataW.trod enc Tryz.prog W 0 (fun _ => true) true fuel 28 cs = some x) (hl : Light 28 x.1) :
    ∃ (A : Option Addr) (c : Nat) (l : List (List UInt8)), cs = [.slice A l.length c] ∧ AddrsRd W A l ∧ l.length ≤ 9000000000000000000 ∧ ∀ n ∈ l, n.length ≤ 9000000000000000000 := by
  obtain ⟨A, n, c, rfl, hn, h⟩ := read_row Tryz.underlying28 (by rw [bytes43]; omega) hf hl
  have hx : ∀ i, i < n → ∃ q : Option Addr × Nat × List UInt8, (∃ a, A = some a ∧ W.cell? (a.add i) = some (.slice q.1 q.2.2.length q.2.1)) ∧ Byt W q.1 q.2.2 ∧ q.2.2.length ≤ 9000000000000000000 := fun i hi => by
    obtain ⟨a, ha, h'⟩ := h (by omega)
    subst ha
    obtain ⟨k, cs', y, h1, h2, h3, h4⟩ := h' i hi
    obtain ⟨P, ca, m, rfl, b0, s0⟩ := read_bytes h3 h4
    rw [cells43, Nat.mul_one] at h2
    have := h2 0 (by omega)
    exact ⟨(P, ca, m), ⟨a, rfl, by simpa [add_of_add] using this⟩, b0, s0⟩
  obtain ⟨f, hf⟩ := chosen hx
  have hlen : ((List.range n).map fun i => (f i).2.2).length = n := by simp
  have hget : ∀ k, k < n → ((List.range n).map fun i => (f i).2.2).getD k [] = (f k).2.2 := fun k hk => by simp [hk]
  refine ⟨A, c, (List.range n).map fun i => (f i).2.2, by rw [hlen], ⟨fun i => (f i).1, fun i => (f i).2.1, fun k hk => ?_, fun k hk => ?_⟩, by rw [hlen]; exact hn, fun m hm => ?_⟩
  · rw [hlen] at hk
    simp only [hget k hk]
    exact (hf k hk).1
  · rw [hlen] at hk
    simp only [List.getElem_map, List.getElem_range]
    exact (hf k hk).2.1
  · obtain ⟨i, hi, rfl⟩ := List.mem_map.1 hm
    exact (hf i (List.mem_range.1 hi)).2.2
theorem list4 {α : Type} {l : List α} (h : l.length = 4) : ∃ a b c d, l = [a, b, c, d] := by
  match l, h with
  | [a, b, c, d], _ => exact ⟨a, b, c, d, rfl⟩
theorem list6 {α : Type} {l : List α} (h : l.length = 6) : ∃ a b c d e f, l = [a, b, c, d, e, f] := by
  match l, h with
  | [a, b, c, d, e, f], _ => exact ⟨a, b, c, d, e, f, rfl⟩
theorem list12 {α : Type} {l : List α} (h : l.length = 12) : ∃ a b c d e f g i j k m n, l = [a, b, c, d, e, f, g, i, j, k, m, n] := by
  match l, h with
  | [a, b, c, d, e, f, g, i, j, k, m, n], _ => exact ⟨a, b, c, d, e, f, g, i, j, k, m, n, rfl⟩
def pick4 {α : Type} (a b c d : α) (k : Nat) : α := match k with | 0 => a | 1 => b | 2 => c | _ => d
def pick3 {α : Type} (a b c : α) (k : Nat) : α := match k with | 0 => a | 1 => b | _ => c
theorem read_names {fuel : Nat} {cs : List Value} {x : DataW H × List MemPlace} (hf : DataW.trod enc Tryz.prog W 0 (fun _ => true) true fuel 27 cs = some x) (hl : Light 27 x.1) :
    ∃ (pA : Nat → Option Addr) (pc : Nat → Nat) (p : Nat → List ByteArray) (nets : List NetV), cs = [.slice (pA 0) (p 0).length (pc 0), .slice (pA 1) (p 1).length (pc 1), .slice (pA 2) (p 2).length (pc 2), .slice (pA 3) nets.length (pc 3)] ∧ NamesRd W pA p nets ∧ NamesSz 9000000000000000000 p nets := by
  obtain ⟨xs, n, _, rfl, h1, h2, h3⟩ := DataW.trod_struct Tryz.underlying27 hf
  rw [cells27] at h1
  obtain ⟨v0, v1, v2, v3, rfl⟩ := list4 h1
  obtain ⟨y0, y1, y2, y3, rfl⟩ := list4 (show xs.length = 4 from h2)
  have g0 : DataW.trod enc Tryz.prog W 0 (fun _ => true) true n 22 (([v0, v1, v2, v3].drop 0).take (Tryz.prog.cellsOf 22)) = some y0 := h3 0 _ rfl
  have g1 : DataW.trod enc Tryz.prog W 0 (fun _ => true) true n 22 (([v0, v1, v2, v3].drop 1).take (Tryz.prog.cellsOf 22)) = some y1 := h3 1 _ rfl
  have g2 : DataW.trod enc Tryz.prog W 0 (fun _ => true) true n 22 (([v0, v1, v2, v3].drop 2).take (Tryz.prog.cellsOf 22)) = some y2 := h3 2 _ rfl
  have g3 : DataW.trod enc Tryz.prog W 0 (fun _ => true) true n 25 (([v0, v1, v2, v3].drop 3).take (Tryz.prog.cellsOf 25)) = some y3 := h3 3 _ rfl
  rw [cells22] at g0 g1 g2
  rw [cells25] at g3
  obtain ⟨A0, c0, l0, e0, r0, s0⟩ := read_txt (x := y0) (by simpa using g0) (light_struct (j := 0) Tryz.underlying27 hl rfl rfl)
  obtain ⟨A1, c1, l1, e1, r1, s1⟩ := read_txt (x := y1) (by simpa using g1) (light_struct (j := 1) Tryz.underlying27 hl rfl rfl)
  obtain ⟨A2, c2, l2, e2, r2, s2⟩ := read_txt (x := y2) (by simpa using g2) (light_struct (j := 2) Tryz.underlying27 hl rfl rfl)
  obtain ⟨A3, c3, l3, e3, r3, s3⟩ := read_nets (x := y3) (by simpa using g3) (light_struct (j := 3) Tryz.underlying27 hl rfl rfl)
  simp at e0 e1 e2 e3
  subst e0 e1 e2 e3
  refine ⟨pick4 A0 A1 A2 A3, pick4 c0 c1 c2 c3, pick3 l0 l1 l2, l3, rfl, ⟨fun k hk => ?_, r3⟩, ⟨fun k hk => ?_, s3⟩⟩
  · match k, hk with
    | 0, _ => exact r0
    | 1, _ => exact r1
    | 2, _ => exact r2
  · match k, hk with
    | 0, _ => exact s0
    | 1, _ => exact s1
    | 2, _ => exact s2
theorem read_cert {fuel : Nat} {cs : List Value} {x : DataW H × List MemPlace} (hf : DataW.trod enc Tryz.prog W 0 (fun _ => true) true fuel 30 cs = some x) (hl : Light 30 x.1) :
    ∃ (z : GSlots) (c : GC), cs = (z.cells c).toList ∧ CertRd W z c ∧ CertSz 9000000000000000000 c := by
  obtain ⟨xs, n, _, rfl, h1, h2, h3⟩ := DataW.trod_struct Tryz.underlying30 hf
  rw [cells30] at h1
  obtain ⟨v0, v1, v2, v3, v4, v5, v6, v7, v8, v9, v10, v11, rfl⟩ := list12 h1
  obtain ⟨y0, y1, y2, y3, y4, y5, rfl⟩ := list6 (show xs.length = 6 from h2)
  have g0 : DataW.trod enc Tryz.prog W 0 (fun _ => true) true n 27 (([v0, v1, v2, v3, v4, v5, v6, v7, v8, v9, v10, v11].drop 0).take (Tryz.prog.cellsOf 27)) = some y0 := h3 0 _ rfl
  have g1 : DataW.trod enc Tryz.prog W 0 (fun _ => true) true n 27 (([v0, v1, v2, v3, v4, v5, v6, v7, v8, v9, v10, v11].drop 4).take (Tryz.prog.cellsOf 27)) = some y1 := h3 1 _ rfl
  have g2 : DataW.trod enc Tryz.prog W 0 (fun _ => true) true n 22 (([v0, v1, v2, v3, v4, v5, v6, v7, v8, v9, v10, v11].drop 8).take (Tryz.prog.cellsOf 22)) = some y2 := h3 2 _ rfl
  have g3 : DataW.trod enc Tryz.prog W 0 (fun _ => true) true n 22 (([v0, v1, v2, v3, v4, v5, v6, v7, v8, v9, v10, v11].drop 9).take (Tryz.prog.cellsOf 22)) = some y3 := h3 3 _ rfl
  have g4 : DataW.trod enc Tryz.prog W 0 (fun _ => true) true n 22 (([v0, v1, v2, v3, v4, v5, v6, v7, v8, v9, v10, v11].drop 10).take (Tryz.prog.cellsOf 22)) = some y4 := h3 4 _ rfl
  have g5 : DataW.trod enc Tryz.prog W 0 (fun _ => true) true n 28 (([v0, v1, v2, v3, v4, v5, v6, v7, v8, v9, v10, v11].drop 11).take (Tryz.prog.cellsOf 28)) = some y5 := h3 5 _ rfl
  rw [cells22] at g2 g3 g4
  rw [cells27] at g0 g1
  rw [cells28] at g5
  obtain ⟨pA, pc, p, pn, e0, r0, s0⟩ := read_names (x := y0) (by simpa using g0) (light_struct (j := 0) Tryz.underlying30 hl rfl rfl)
  obtain ⟨eA, ec, e, en, e1, r1, s1⟩ := read_names (x := y1) (by simpa using g1) (light_struct (j := 1) Tryz.underlying30 hl rfl rfl)
  obtain ⟨A2, c2, l2, e2, r2, s2⟩ := read_txt (x := y2) (by simpa using g2) (light_struct (j := 2) Tryz.underlying30 hl rfl rfl)
  obtain ⟨A3, c3, l3, e3, r3, s3⟩ := read_txt (x := y3) (by simpa using g3) (light_struct (j := 3) Tryz.underlying30 hl rfl rfl)
  obtain ⟨A4, c4, l4, e4, r4, s4⟩ := read_txt (x := y4) (by simpa using g4) (light_struct (j := 4) Tryz.underlying30 hl rfl rfl)
  obtain ⟨A5, c5, l5, e5, r5, s5⟩ := read_addrs (x := y5) (by simpa using g5) (light_struct (j := 5) Tryz.underlying30 hl rfl rfl)
  simp at e0 e1 e2 e3 e4 e5
  obtain ⟨rfl, rfl, rfl, rfl⟩ := e0
  obtain ⟨rfl, rfl, rfl, rfl⟩ := e1
  subst e2 e3 e4 e5
  refine ⟨⟨pA, eA, pick4 A2 A3 A4 A5, pc, ec, pick4 c2 c3 c4 c5⟩, ⟨p, e, pick3 l2 l3 l4, pn, en, l5⟩, rfl, ⟨r0, r1, fun k hk => ?_, r5⟩, ⟨s0, s1, fun k hk => ?_, s5⟩⟩
  · match k, hk with
    | 0, _ => exact r2
    | 1, _ => exact r3
    | 2, _ => exact r4
  · match k, hk with
    | 0, _ => exact s2
    | 1, _ => exact s3
    | 2, _ => exact s4
instance : Inhabited (GSlots × GC) := ⟨⟨⟨fun _ => none, fun _ => none, fun _ => none, fun _ => 0, fun _ => 0, fun _ => 0⟩, ⟨fun _ => [], fun _ => [], fun _ => [], [], [], []⟩⟩⟩
theorem read_chain {fuel : Nat} {cs : List Value} {x : DataW H × List MemPlace} (hf : DataW.trod enc Tryz.prog W 0 (fun _ => true) true fuel 37 cs = some x) (hl : Light 37 x.1) :
    ∃ (A : Option Addr) (n c : Nat) (ks : Nat → GC) (zs : Nat → GSlots), cs = [.slice A n c] ∧ n ≤ 9000000000000000000 ∧ ChainRd W A n ks zs ∧ ∀ k, k < n → CertSz 9000000000000000000 (ks k) := by
  obtain ⟨A, n, c, rfl, hn, h⟩ := read_row Tryz.underlying37 (by rw [bytes30]; omega) hf hl
  have hx : ∀ i, i < n → ∃ q : GSlots × GC, (∃ a, A = some a ∧ ∀ j, j < 12 → W.cell? ((a.add (i * 12)).add j) = (q.1.cells q.2)[j]?) ∧ CertRd W q.1 q.2 ∧ CertSz 9000000000000000000 q.2 := fun i hi => by
    obtain ⟨a, ha, h'⟩ := h (by omega)
    subst ha
    obtain ⟨k, cs', y, h1, h2, h3, h4⟩ := h' i hi
    obtain ⟨z, c, rfl, r, s⟩ := read_cert h3 h4
    rw [cells30] at h2
    exact ⟨(z, c), ⟨a, rfl, fun j hj => by rw [h2 j hj]; simp⟩, r, s⟩
  obtain ⟨f, hf⟩ := chosen hx
  refine ⟨A, n, c, fun k => (f k).2, fun k => (f k).1, rfl, hn, ⟨fun h0 => ?_, fun k hk => (hf k hk).2.1⟩, fun k hk => (hf k hk).2.2⟩
  obtain ⟨a, rfl, c0⟩ := (hf 0 h0).1
  obtain ⟨g, off, rfl⟩ := spot_none (a := a) (v := .slice ((f 0).1.pA 0) ((f 0).2.p 0).length ((f 0).1.pc 0)) (by
    have := c0 0 (by omega)
    rw [Nat.zero_mul] at this
    simpa [Addr.add, GSlots.cells] using this)
  refine ⟨g, off, rfl, fun k hk j hj => ?_⟩
  obtain ⟨a, e, c1⟩ := (hf k hk).1
  injection e with e
  subst e
  simp only [add_none] at c1
  match j, hj with
  | 0, _ => exact ⟨c1 0 (by omega), c1 4 (by omega), c1 8 (by omega)⟩
  | 1, _ => exact ⟨c1 1 (by omega), c1 5 (by omega), c1 9 (by omega)⟩
  | 2, _ => exact ⟨c1 2 (by omega), c1 6 (by omega), c1 10 (by omega)⟩
  | 3, _ => exact ⟨c1 3 (by omega), c1 7 (by omega), c1 11 (by omega)⟩
end
end Go.Proofs.YtblabjfjhlablaaGreatDoor
