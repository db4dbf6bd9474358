/- The walks of spec's within and namesOk. -/
import Derived.Test.YtblabjfjhlablaaGreatDoorS3
import Derived.Test.YtblabjfjhlablaaGreatDoorSf
import Derived.Test.YtblabjfjhlablaaGreatDoorMb
import Derived.Test.YtblabjfjhlablaaGreatDoorXp
namespace Go.Proofs.YtblabjfjhlablaaGreatDoor
open Go.RowKit Go.Sort Nc
theorem eg48 : ∀ args w, (callFunc 48 args).run Tryz.prog w = .ok (.enter 48 args) w := enters_of Tryz.func48 (by kernel_rfl) rfl
theorem eg50 : ∀ args w, (callFunc 50 args).run Tryz.prog w = .ok (.enter 50 args) w := enters_of Tryz.func50 (by kernel_rfl) rfl
theorem eg52 : ∀ args w, (callFunc 52 args).run Tryz.prog w = .ok (.enter 52 args) w := enters_of Tryz.func52 (by kernel_rfl) rfl
theorem eg79 : ∀ args w, (callFunc 79 args).run Tryz.prog w = .ok (.enter 79 args) w := enters_of Tryz.func79 (by kernel_rfl) rfl
theorem eg82 : ∀ args w, (callFunc 82 args).run Tryz.prog w = .ok (.enter 82 args) w := enters_of Tryz.func82 (by kernel_rfl) rfl
theorem notName_calls (s : ByteArray) (w : World) (hs : s.size ≤ 2147483647) : Calls Tryz.prog 48 #[.string s] w fun e w' => e = .returned (.bool (!nameB s)) ∧ Below w.heap.size w w' := by
  have H := Lib.hid (nameOk_calls s w hs)
  go_enter Tryz.func48, Tryz.ntmps48
  go_wp2_with (first | (go_at_call 13; (with_reducible refine H.out.mono ?_); rintro e w1 ⟨rfl, hb⟩) | fail)
  go_ret
  exact ⟨rfl, hb⟩
theorem notBox_calls (s : ByteArray) (w : World) (hs : s.size ≤ 2147483647) : Calls Tryz.prog 50 #[.string s] w fun e w' => e = .returned (.bool (!boxB s)) ∧ Below w.heap.size w w' := by
  have H := Lib.hid (mailboxOk_calls s w hs)
  go_enter Tryz.func50, Tryz.ntmps50
  go_wp2_with (first | (go_at_call 16; (with_reducible refine H.out.mono ?_); rintro e w1 ⟨rfl, hb⟩) | fail)
  go_ret
  exact ⟨rfl, hb⟩
theorem notAddr_calls (A : Option Addr) (l : List UInt8) (c : Nat) (w : World) (h : Byt w A l) : Calls Tryz.prog 52 #[.slice A l.length c] w fun e w' => e = .returned (.bool (!addrB l)) ∧ Below w.heap.size w w' := by
  have H := Lib.hid (addressOk_calls A l c w h)
  clear h
  generalize l.length = n at *
  go_enter Tryz.func52, Tryz.ntmps52
  go_wp2_with (first | (go_at_call 53; (with_reducible refine H.out.mono ?_); rintro e w1 ⟨rfl, rfl⟩) | fail)
  go_ret
  exact ⟨rfl, Below.refl _ _⟩
theorem notNet_calls (A M : Option Addr) (n : NetV) (ca cm : Nat) (w : World) (hA : Byt w A n.1) (hM : Byt w M n.2) (hl1 : n.1.length ≤ 9000000000000000000) (hl2 : n.2.length ≤ 9000000000000000000) :
    Calls Tryz.prog 79 #[.agg #[.slice A n.1.length ca, .slice M n.2.length cm]] w fun e w' => e = .returned (.bool (!netB n)) ∧ Below w.heap.size w w' := by
  have H := Lib.hid (fun (W : World) (hW : Below w.heap.size w W) => netOk_calls A M n ca cm W (hA.later hW) (hM.later hW) hl1 hl2)
  have hC : Blk (w.alloc (.cells #[.slice A n.1.length ca, .slice M n.2.length cm] 72)) w.heap.size 72 #[.slice A n.1.length ca, .slice M n.2.length cm] := Blk.new _ _ _
  have hb0 : Below w.heap.size w (w.alloc (.cells #[.slice A n.1.length ca, .slice M n.2.length cm] 72)) := (Below.refl _ _).alloc (Nat.le_refl _) _
  have c0 := hC.at_ 0 rfl
  have c1 := hC.at_ 1 rfl
  clear hA hM
  go_enter Tryz.func79, Tryz.ntmps79
  go_wp2_with (first | (go_at_call 80; (with_reducible refine (H.out _ hb0).mono ?_); rintro e w1 ⟨rfl, hb⟩) | fail)
  go_ret
  exact ⟨rfl, hb0.trans (hb.mono hb0.size)⟩
theorem over_calls (n : Nat) (w : World) : Calls Tryz.prog 82 #[.int .i64 n] w fun e w' => e = .returned (.bool (decide (20 < n))) ∧ Below w.heap.size w w' := by
  have e : decide ((20 : Int) < (n : Int)) = decide (20 < n) := decide_eq_decide.2 (by omega)
  generalize decide (20 < n) = b at *
  go_enter Tryz.func82, Tryz.ntmps82
  go_wp2
  go_ret
  exact ⟨by rw [← e]; rfl, Below.refl _ _⟩
/-- Four sizes are none over 20. -/
def in20 (a b c d : Nat) : Bool := decide (a ≤ 20) && decide (b ≤ 20) && decide (c ≤ 20) && decide (d ≤ 20)
def four (a b c d : Nat) (k : Nat) : Nat := match k with | 0 => a | 1 => b | 2 => c | _ => d
theorem in20_any (a b c d : Nat) : (!(List.range 4).any fun k => decide (20 < four a b c d k)) = in20 a b c d := by
  have e : (List.range 4) = [0, 1, 2, 3] := rfl
  rw [e]
  simp only [List.any_cons, List.any_nil, Bool.or_false, four, in20, Bool.not_or, Bool.and_assoc]
  congr 1
  · rw [← decide_not]; exact decide_eq_decide.2 (by omega)
  congr 1
  · rw [← decide_not]; exact decide_eq_decide.2 (by omega)
  congr 1
  · rw [← decide_not]; exact decide_eq_decide.2 (by omega)
  · rw [← decide_not]; exact decide_eq_decide.2 (by omega)
theorem within_calls (g a b c d : Nat) (w : World) (h : Blk w g 3 #[.int .i64 a, .int .i64 b, .int .i64 c, .int .i64 d]) :
    Calls Tryz.prog 47 #[.slice (some ⟨g, 0, none⟩) 4 4] w fun e w' => e = .returned (.bool (in20 a b c d)) ∧ Below w.heap.size w w' := by
  have H := Lib.hid (numAny_calls 82 eg82 (some ⟨g, 0, none⟩) 4 4 (fun k => .int .i64 (four a b c d k)) (fun k => decide (20 < four a b c d k)) w (fun k hk => ⟨_, rfl, by
    match k, hk with
    | 0, _ => exact h.at_ 0 rfl
    | 1, _ => exact h.at_ 1 rfl
    | 2, _ => exact h.at_ 2 rfl
    | 3, _ => exact h.at_ 3 rfl⟩) (by omega) (fun k hk W hW => over_calls _ W))
  rw [← in20_any]
  clear h
  generalize (List.range 4).any (fun k => decide (20 < four a b c d k)) = R at *
  go_enter Tryz.func47, Tryz.ntmps47
  go_wp2_with (first | (go_at_call 81; (with_reducible refine H.out.mono ?_); rintro e w1 ⟨rfl, hb⟩) | fail)
  go_ret
  exact ⟨rfl, hb⟩
theorem range_anyD {α : Type} (l : List α) (d : α) (p : α → Bool) : ((List.range l.length).any fun k => p (l.getD k d)) = l.any p := by
  rw [Bool.eq_iff_iff, List.any_eq_true, List.any_eq_true]
  constructor
  · rintro ⟨k, hk, h⟩
    have hk : k < l.length := by simpa using hk
    refine ⟨l[k], List.getElem_mem hk, ?_⟩
    simpa [hk] using h
  · rintro ⟨x, hx, h⟩
    obtain ⟨k, hk, rfl⟩ := List.getElem_of_mem hx
    exact ⟨k, by simpa using hk, by simpa [hk] using h⟩
theorem netsBad_calls (A : Option Addr) (l : List NetV) (c : Nat) (w : World) (h : NetsRd w A l) (hl : l.length ≤ 9000000000000000000) (hs : ∀ n ∈ l, n.1.length ≤ 9000000000000000000 ∧ n.2.length ≤ 9000000000000000000) :
    Calls Tryz.prog 78 #[.slice A l.length c, .func (.func 79) #[] #[]] w fun e w' => e = .returned (.bool (l.any fun n => !netB n)) ∧ Below w.heap.size w w' := by
  obtain ⟨a, b, ac, bc, h1, h2⟩ := h
  have := netAny_calls 79 eg79 A l.length c a b (fun k => (l.getD k ([], [])).1.length) (fun k => (l.getD k ([], [])).2.length) ac bc (fun k => !netB (l.getD k ([], []))) w h1 hl (fun k hk W hW => by
    have e : l.getD k ([], []) = l[k] := by simp [hk]
    simp only [e]
    obtain ⟨b0, b1⟩ := h2 k hk
    obtain ⟨s0, s1⟩ := hs _ (List.getElem_mem hk)
    exact notNet_calls (a k) (b k) l[k] (ac k) (bc k) W (b0.later hW) (b1.later hW) s0 s1)
  rw [range_anyD l ([], []) (fun n => !netB n)] at this
  exact this
/-- What a program says of a certificate's constraints. -/
def namesB (p : Nat → List ByteArray) (nets : List NetV) : Bool := in20 (p 0).length (p 1).length (p 2).length nets.length && ((p 0).all plainS && (p 1).all plainS && (p 2).all plainS && !(nets.any fun n => !netB n))
def nval (pA : Nat → Option Addr) (pn pc : Nat → Nat) : Value := .agg #[.slice (pA 0) (pn 0) (pc 0), .slice (pA 1) (pn 1) (pc 1), .slice (pA 2) (pn 2) (pc 2), .slice (pA 3) (pn 3) (pc 3)]
structure NamesRd (w : World) (pA : Nat → Option Addr) (p : Nat → List ByteArray) (nets : List NetV) : Prop where
  t : ∀ k, k < 3 → Reads w w.heap.size 1 (pA k) (p k).length ((p k).map .string)
  n : NetsRd w (pA 3) nets
theorem NamesRd.later {w w' : World} {pA : Nat → Option Addr} {p : Nat → List ByteArray} {nets : List NetV} (h : NamesRd w pA p nets) (hb : Below w.heap.size w w') : NamesRd w' pA p nets :=
  ⟨fun k hk => (h.t k hk).below hb |>.more hb.size, h.n.later hb⟩
structure NamesSz (B : Nat) (p : Nat → List ByteArray) (nets : List NetV) : Prop where
  l : ∀ k, k < 3 → (p k).length ≤ B ∧ ∀ x ∈ p k, x.size ≤ B
  n : nets.length ≤ B ∧ ∀ x ∈ nets, x.1.length ≤ B ∧ x.2.length ≤ B
set_option maxRecDepth 100000 in
set_option maxHeartbeats 1000000 in
theorem namesOk_calls (pA : Nat → Option Addr) (pc : Nat → Nat) (p : Nat → List ByteArray) (nets : List NetV) (w : World) (h : NamesRd w pA p nets) (hs : NamesSz 2147483647 p nets) :
    Calls Tryz.prog 46 #[nval pA (len4 p nets.length) pc] w fun e w' => e = .returned (.bool (namesB p nets)) ∧ Below w.heap.size w w' := by
  have hC : Blk (w.alloc (.cells #[.slice (pA 0) (p 0).length (pc 0), .slice (pA 1) (p 1).length (pc 1), .slice (pA 2) (p 2).length (pc 2), .slice (pA 3) nets.length (pc 3)] 27)) w.heap.size 27 #[.slice (pA 0) (p 0).length (pc 0), .slice (pA 1) (p 1).length (pc 1), .slice (pA 2) (p 2).length (pc 2), .slice (pA 3) nets.length (pc 3)] := Blk.new _ _ _
  have hb0 : Below w.heap.size w (w.alloc (.cells #[.slice (pA 0) (p 0).length (pc 0), .slice (pA 1) (p 1).length (pc 1), .slice (pA 2) (p 2).length (pc 2), .slice (pA 3) nets.length (pc 3)] 27)) := (Below.refl _ _).alloc (Nat.le_refl _) _
  have hsz : (w.alloc (.cells #[.slice (pA 0) (p 0).length (pc 0), .slice (pA 1) (p 1).length (pc 1), .slice (pA 2) (p 2).length (pc 2), .slice (pA 3) nets.length (pc 3)] 27)).heap.size = w.heap.size + 1 := World.size_alloc _ _
  have KP := Lib.hid (fun (k : Nat) (hk : k < 3) (hle : (p k).length ≤ 20) (W : World) (hW : Below w.heap.size w W) => plain_calls (pA k) (p k) (pc k) W ((h.later hW).t k hk).cellAt (by omega) (hs.l k hk).2)
  have KN := Lib.hid (fun (W : World) (hW : Below w.heap.size w W) => netsBad_calls (pA 3) nets (pc 3) W (h.later hW).n (by have := hs.n.1; omega) (fun n hn => by have := hs.n.2 n hn; omega))
  have c0 := hC.at_ 0 rfl
  have c1 := hC.at_ 1 rfl
  have c2 := hC.at_ 2 rfl
  have c3 := hC.at_ 3 rfl
  have hBB := Blk.new (w.alloc (.cells #[.slice (pA 0) (p 0).length (pc 0), .slice (pA 1) (p 1).length (pc 1), .slice (pA 2) (p 2).length (pc 2), .slice (pA 3) nets.length (pc 3)] 27)) 3 #[.int .i64 (p 0).length, .int .i64 (p 1).length, .int .i64 (p 2).length, .int .i64 nets.length]
  rw [hsz] at hBB
  have hB0 := hb0.alloc hb0.size (.cells #[.int .i64 (p 0).length, .int .i64 (p 1).length, .int .i64 (p 2).length, .int .i64 nets.length] 3)
  have hD := hC.alloc (.cells #[.int .i64 (p 0).length, .int .i64 (p 1).length, .int .i64 (p 2).length, .int .i64 nets.length] 3)
  clear h hs hsz
  unfold nval len4 namesB
  simp only
  have hin : in20 (p 0).length (p 1).length (p 2).length nets.length = true → (p 0).length ≤ 20 ∧ (p 1).length ≤ 20 ∧ (p 2).length ≤ 20 := fun h => by
    simp only [in20, Bool.and_eq_true, decide_eq_true_eq] at h; omega
  have hW2 := within_calls (w.heap.size + 1) (p 0).length (p 1).length (p 2).length nets.length
  generalize in20 (p 0).length (p 1).length (p 2).length nets.length = I at *
  have HW2 := Lib.hid hW2
  clear hW2
  have h0 := KP.out 0 (by omega)
  have h1 := KP.out 1 (by omega)
  have h2 := KP.out 2 (by omega)
  generalize (p 0).all plainS = P0 at *
  generalize (p 1).all plainS = P1 at *
  generalize (p 2).all plainS = P2 at *
  generalize nets.any (fun n => !netB n) = N at *
  clear KP
  generalize (p 0).length = l0 at *
  generalize (p 1).length = l1 at *
  generalize (p 2).length = l2 at *
  generalize nets.length = l3 at *
  cases I with
  | false =>
    simp only [Bool.false_and]
    go_enter Tryz.func46, Tryz.ntmps46
    go_wp2_with (first
      | (go_at_call 47; (with_reducible refine (HW2.out _ ?_).mono ?_); (exact hBB); rintro e w1 ⟨rfl, hb1⟩; have B1 := hB0.trans (hb1.mono hB0.size))
      | fail)
    go_ret
    exact ⟨rfl, B1⟩
  | true =>
  obtain ⟨q0, q1, q2⟩ := hin rfl
  have K0 := Lib.hid (h0 q0)
  have K1 := Lib.hid (h1 q1)
  have K2 := Lib.hid (h2 q2)
  clear h0 h1 h2 hin q0 q1 q2
  simp only [Bool.true_and]
  go_enter Tryz.func46, Tryz.ntmps46
  go_wp2_with (first
    | (go_at_call 47; (with_reducible refine (HW2.out _ ?_).mono ?_); (exact hBB); rintro e w1 ⟨rfl, hb1⟩; have B1 := hB0.trans (hb1.mono hB0.size); have D1 := hD.later hb1; have d0 := D1.at_ 0 rfl; have d1 := D1.at_ 1 rfl; have d2 := D1.at_ 2 rfl; have d3 := D1.at_ 3 rfl)
    | (go_at_call 12; (with_reducible refine (K0.out _ B1).mono ?_); rintro e wx ⟨rfl, rfl⟩)
    | (go_at_call 12; (with_reducible refine (K1.out _ B1).mono ?_); rintro e wx ⟨rfl, rfl⟩)
    | (go_at_call 12; (with_reducible refine (K2.out _ B1).mono ?_); rintro e wx ⟨rfl, rfl⟩)
    | (go_at_call 78; (with_reducible refine (KN.out _ B1).mono ?_); rintro e w2 ⟨rfl, hb2⟩; have B2 := B1.trans (hb2.mono B1.size))
    | fail)
  all_goals go_ret
  all_goals first
    | exact ⟨by simp [*], B2⟩
    | exact ⟨by simp [*], B1⟩
end Go.Proofs.YtblabjfjhlablaaGreatDoor
/- The walk of spec's CertOk. -/
namespace Go.Proofs.YtblabjfjhlablaaGreatDoor
open Go.RowKit Go.Sort Nc
theorem namesBad_calls (A : Option Addr) (l : List ByteArray) (c : Nat) (w : World) (h : Reads w w.heap.size 1 A l.length (l.map .string)) (hl : l.length ≤ 2147483647) (hs : ∀ x ∈ l, x.size ≤ 2147483647) :
    Calls Tryz.prog 49 #[.slice A l.length c, .func (.func 48) #[] #[]] w fun e w' => e = .returned (.bool (l.any fun s => !nameB s)) ∧ Below w.heap.size w w' := by
  have := txtAny_calls 48 eg48 A l.length c (fun k => .string (l.getD k ByteArray.empty)) (fun k => !nameB (l.getD k ByteArray.empty)) w (fun k hk => by
    obtain ⟨ad, e, h1⟩ := h.cellAt k hk
    exact ⟨ad, e, by rw [getD_eq l k hk]; exact h1⟩) (by omega) (fun k hk W _ => by
    rw [getD_eq l k hk]
    exact notName_calls _ W (hs _ (List.getElem_mem hk)))
  rw [range_anyD l ByteArray.empty (fun s => !nameB s)] at this
  exact this
theorem boxesBad_calls (A : Option Addr) (l : List ByteArray) (c : Nat) (w : World) (h : Reads w w.heap.size 1 A l.length (l.map .string)) (hl : l.length ≤ 2147483647) (hs : ∀ x ∈ l, x.size ≤ 2147483647) :
    Calls Tryz.prog 49 #[.slice A l.length c, .func (.func 50) #[] #[]] w fun e w' => e = .returned (.bool (l.any fun s => !boxB s)) ∧ Below w.heap.size w w' := by
  have := txtAny_calls 50 eg50 A l.length c (fun k => .string (l.getD k ByteArray.empty)) (fun k => !boxB (l.getD k ByteArray.empty)) w (fun k hk => by
    obtain ⟨ad, e, h1⟩ := h.cellAt k hk
    exact ⟨ad, e, by rw [getD_eq l k hk]; exact h1⟩) (by omega) (fun k hk W _ => by
    rw [getD_eq l k hk]
    exact notBox_calls _ W (hs _ (List.getElem_mem hk)))
  rw [range_anyD l ByteArray.empty (fun s => !boxB s)] at this
  exact this
theorem addrsBad_calls (A : Option Addr) (l : List (List UInt8)) (c : Nat) (w : World) (h : AddrsRd w A l) (hl : l.length ≤ 9000000000000000000) :
    Calls Tryz.prog 51 #[.slice A l.length c, .func (.func 52) #[] #[]] w fun e w' => e = .returned (.bool (l.any fun a => !addrB a)) ∧ Below w.heap.size w w' := by
  obtain ⟨a, ac, h1, h2⟩ := h
  have := rowAny_calls 52 eg52 A l.length c (fun k => .slice (a k) (l.getD k []).length (ac k)) (fun k => !addrB (l.getD k [])) w h1 hl (fun k hk W hW => by
    have e : l.getD k [] = l[k] := by simp [hk]
    simp only [e]
    exact notAddr_calls (a k) l[k] (ac k) W ((h2 k hk).later hW))
  rw [range_anyD l [] (fun a => !addrB a)] at this
  exact this
/-- A certificate as the caller's memory holds it. -/
structure CertRd (w : World) (z : GSlots) (c : GC) : Prop where
  p : NamesRd w z.pA c.p c.pn
  e : NamesRd w z.eA c.e c.en
  s : ∀ k, k < 3 → Reads w w.heap.size 1 (z.fA k) (c.s k).length ((c.s k).map .string)
  a : AddrsRd w (z.fA 3) c.ad
theorem CertRd.later {w w' : World} {z : GSlots} {c : GC} (h : CertRd w z c) (hb : Below w.heap.size w w') : CertRd w' z c :=
  ⟨h.p.later hb, h.e.later hb, fun k hk => (h.s k hk).below hb |>.more hb.size, h.a.later hb⟩
structure CertSz (B : Nat) (c : GC) : Prop where
  p : NamesSz B c.p c.pn
  e : NamesSz B c.e c.en
  s : ∀ k, k < 3 → (c.s k).length ≤ B ∧ ∀ x ∈ c.s k, x.size ≤ B
  a : c.ad.length ≤ B ∧ ∀ x ∈ c.ad, x.length ≤ B
/-- What a program says of a certificate. -/
def certB (c : GC) : Bool := namesB c.p c.pn && namesB c.e c.en && in20 (c.s 0).length (c.s 1).length (c.s 2).length c.ad.length &&
  (!((c.s 0).any fun s => !nameB s) && !((c.s 2).any fun s => !nameB s) && !((c.s 1).any fun s => !boxB s) && !(c.ad.any fun a => !addrB a))
def GSlots.val (z : GSlots) (c : GC) : Value := cval z.pA z.eA z.fA (len4 c.p c.pn.length) (len4 c.e c.en.length) (len4 c.s c.ad.length) z.pc z.ec z.fc
def GSlots.cells (z : GSlots) (c : GC) : Array Value :=
  #[.slice (z.pA 0) (c.p 0).length (z.pc 0), .slice (z.pA 1) (c.p 1).length (z.pc 1), .slice (z.pA 2) (c.p 2).length (z.pc 2), .slice (z.pA 3) c.pn.length (z.pc 3), .slice (z.eA 0) (c.e 0).length (z.ec 0), .slice (z.eA 1) (c.e 1).length (z.ec 1), .slice (z.eA 2) (c.e 2).length (z.ec 2), .slice (z.eA 3) c.en.length (z.ec 3), .slice (z.fA 0) (c.s 0).length (z.fc 0), .slice (z.fA 1) (c.s 1).length (z.fc 1), .slice (z.fA 2) (c.s 2).length (z.fc 2), .slice (z.fA 3) c.ad.length (z.fc 3)]
set_option maxRecDepth 100000 in
set_option maxHeartbeats 2000000 in
theorem certOk_calls (z : GSlots) (c : GC) (w : World) (h : CertRd w z c) (hs : CertSz 2147483647 c) :
    Calls Tryz.prog 19 #[z.val c] w fun e w' => e = .returned (.bool (certB c)) ∧ Below w.heap.size w w' := by
  have hC : Blk (w.alloc (.cells (z.cells c) 30)) w.heap.size 30 (z.cells c) := Blk.new _ _ _
  have hb0 : Below w.heap.size w (w.alloc (.cells (z.cells c) 30)) := (Below.refl _ _).alloc (Nat.le_refl _) _
  have KP := Lib.hid (fun (W : World) (hW : Below w.heap.size w W) => namesOk_calls z.pA z.pc c.p c.pn W (h.p.later hW) hs.p)
  have KE := Lib.hid (fun (W : World) (hW : Below w.heap.size w W) => namesOk_calls z.eA z.ec c.e c.en W (h.e.later hW) hs.e)
  have K0 := Lib.hid (fun (W : World) (hW : Below w.heap.size w W) => namesBad_calls (z.fA 0) (c.s 0) (z.fc 0) W ((h.later hW).s 0 (by omega)) (hs.s 0 (by omega)).1 (hs.s 0 (by omega)).2)
  have K2 := Lib.hid (fun (W : World) (hW : Below w.heap.size w W) => namesBad_calls (z.fA 2) (c.s 2) (z.fc 2) W ((h.later hW).s 2 (by omega)) (hs.s 2 (by omega)).1 (hs.s 2 (by omega)).2)
  have K1 := Lib.hid (fun (W : World) (hW : Below w.heap.size w W) => boxesBad_calls (z.fA 1) (c.s 1) (z.fc 1) W ((h.later hW).s 1 (by omega)) (hs.s 1 (by omega)).1 (hs.s 1 (by omega)).2)
  have K3 := Lib.hid (fun (W : World) (hW : Below w.heap.size w W) => addrsBad_calls (z.fA 3) c.ad (z.fc 3) W (h.a.later hW) (by have := hs.a.1; omega))
  have KW := Lib.hid (fun (W : World) (hW : Below w.heap.size w W) => within_calls W.heap.size (c.s 0).length (c.s 1).length (c.s 2).length c.ad.length (W.alloc (.cells #[.int .i64 (c.s 0).length, .int .i64 (c.s 1).length, .int .i64 (c.s 2).length, .int .i64 c.ad.length] 3)) (Blk.new _ _ _))
  clear h hs
  unfold GSlots.val cval len4 certB
  unfold GSlots.cells at hC hb0
  unfold nval len4 at KP KE
  simp only at *
  generalize namesB c.p c.pn = NP at *
  generalize namesB c.e c.en = NE at *
  generalize in20 (c.s 0).length (c.s 1).length (c.s 2).length c.ad.length = I at *
  generalize (c.s 0).any (fun s => !nameB s) = A0 at *
  generalize (c.s 2).any (fun s => !nameB s) = A2 at *
  generalize (c.s 1).any (fun s => !boxB s) = A1 at *
  generalize c.ad.any (fun a => !addrB a) = A3 at *
  generalize (c.s 0).length = n0 at *
  generalize (c.s 1).length = n1 at *
  generalize (c.s 2).length = n2 at *
  generalize c.ad.length = n3 at *
  have HC := Lib.hid hC
  clear hC
  have d := HC.out.at_ 0 rfl
  have d4 := HC.out.at_ 4 rfl
  clear d d4
  obtain ⟨d0, d1, d2, d3, d4, d5, d6, d7, d8, d9, d10, d11, e5, e6, e7⟩ := cells12 HC.out
  cases I
  all_goals go_enter Tryz.func19, Tryz.ntmps19
  all_goals go_wp2_with (first
    | (go_at_call 46; (with_reducible refine (KP.out _ hb0).mono ?_); rintro e w1 ⟨rfl, hb1⟩; have B1 := hb0.trans (hb1.mono hb0.size); have HC1 := Lib.hid (HC.out.later hb1); obtain ⟨f0, f1, f2, f3, f4, f5, f6, f7, f8, f9, f10, f11, fe5, fe6, fe7⟩ := cells12 HC1.out)
    | (go_at_call 46; (with_reducible refine (KE.out _ B1).mono ?_); rintro e w2 ⟨rfl, hb2⟩; have B2 := B1.trans (hb2.mono B1.size); have HC2 := Lib.hid (HC1.out.later hb2); obtain ⟨g0, g1, g2, g3, g4, g5, g6, g7, g8, g9, g10, g11, ge5, ge6, ge7⟩ := cells12 HC2.out)
    | (go_at_call 47; (with_reducible refine (KW.out _ B2).mono ?_); rintro e w3 ⟨rfl, hb3⟩; have bx := B2.alloc B2.size (.cells #[.int .i64 n0, .int .i64 n1, .int .i64 n2, .int .i64 n3] 3); have B3 := bx.trans (hb3.mono bx.size); have HC3 := Lib.hid ((HC2.out.alloc (.cells #[.int .i64 n0, .int .i64 n1, .int .i64 n2, .int .i64 n3] 3)).later hb3); obtain ⟨h0, h1, h2, h3, h4, h5, h6, h7, h8, h9, h10, h11, he5, he6, he7⟩ := cells12 HC3.out)
    | (go_at_call 49; (with_reducible refine (K0.out _ B3).mono ?_); rintro e w4 ⟨rfl, hb4⟩; have B4 := B3.trans (hb4.mono B3.size); have HC4 := Lib.hid (HC3.out.later hb4); obtain ⟨i0, i1, i2, i3, i4, i5, i6, i7, i8, i9, i10, i11, ie5, ie6, ie7⟩ := cells12 HC4.out)
    | (go_at_call 49; (with_reducible refine (K2.out _ B4).mono ?_); rintro e w5 ⟨rfl, hb5⟩; have B5 := B4.trans (hb5.mono B4.size); have HC5 := Lib.hid (HC4.out.later hb5); obtain ⟨j0, j1, j2, j3, j4, j5, j6, j7, j8, j9, j10, j11, je5, je6, je7⟩ := cells12 HC5.out)
    | (go_at_call 49; (with_reducible refine (K1.out _ B5).mono ?_); rintro e w6 ⟨rfl, hb6⟩; have B6 := B5.trans (hb6.mono B5.size); have HC6 := Lib.hid (HC5.out.later hb6); obtain ⟨k0, k1, k2, k3, k4, k5, k6, k7, k8, k9, k10, k11, ke5, ke6, ke7⟩ := cells12 HC6.out)
    | (go_at_call 51; (with_reducible refine (K3.out _ B6).mono ?_); rintro e w7 ⟨rfl, hb7⟩; have B7 := B6.trans (hb7.mono B6.size))
    | fail)
  all_goals go_ret
  all_goals first
    | exact ⟨by simp [*], B7⟩
    | exact ⟨by simp [*], B6⟩
    | exact ⟨by simp [*], B5⟩
    | exact ⟨by simp [*], B4⟩
    | exact ⟨by simp [*], B3⟩
    | exact ⟨by simp [*], B2⟩
    | exact ⟨by simp [*], B1⟩
end Go.Proofs.YtblabjfjhlablaaGreatDoor
/- The walks of what bounds sizes. -/
namespace Go.Proofs.YtblabjfjhlablaaGreatDoor
open Go.RowKit Go.Sort Nc
theorem certB_ok {c : GC} (h : certB c = true) : c.Ok XIP ∧ (∀ k, len4 c.p c.pn.length k ≤ 20) ∧ (∀ k, len4 c.e c.en.length k ≤ 20) ∧ ∀ k, len4 c.s c.ad.length k ≤ 20 := by
  have names : ∀ {p : Nat → List ByteArray} {n : List NetV}, namesB p n = true → (∀ k, k < 3 → PlainL (p k)) ∧ (∀ x ∈ n, NetOk x) ∧ ∀ k, len4 p n.length k ≤ 20 := fun {p n} h => by
    simp only [namesB, in20, Bool.and_eq_true, decide_eq_true_eq, Bool.not_eq_true', List.any_eq_false] at h
    obtain ⟨⟨⟨⟨h0, h1⟩, h2⟩, h3⟩, ⟨⟨h4, h5⟩, h6⟩, h7⟩ := h
    refine ⟨fun k hk => ?_, fun x hx => netB_ok (by have := h7 x hx; simpa using this), fun k => ?_⟩
    · match k, hk with
      | 0, _ => exact plain_ok _ h4
      | 1, _ => exact plain_ok _ h5
      | 2, _ => exact plain_ok _ h6
    · match k with
      | 0 => exact h0
      | 1 => exact h1
      | 2 => exact h2
      | k + 3 => exact h3
  simp only [certB, Bool.and_eq_true] at h
  obtain ⟨⟨⟨hp, he⟩, hi⟩, ⟨⟨h0, h2⟩, h1⟩, h3⟩ := h
  obtain ⟨p1, p2, p3⟩ := names hp
  obtain ⟨e1, e2, e3⟩ := names he
  simp only [in20, Bool.and_eq_true, decide_eq_true_eq] at hi
  obtain ⟨⟨⟨i0, i1⟩, i2⟩, i3⟩ := hi
  have l3 : ∀ k, len4 c.s c.ad.length k ≤ 20 := fun k => by
    match k with
    | 0 => exact i0
    | 1 => exact i1
    | 2 => exact i2
    | k + 3 => exact i3
  simp only [Bool.not_eq_true', List.any_eq_false] at h0 h1 h2 h3
  refine ⟨⟨p1, e1, fun s hs => nameB_fit s (by have := h0 s hs; simpa using this), fun s hs => boxB_fit s (by have := h1 s hs; simpa using this), fun s hs => by have := h2 s hs; simpa using this, ⟨?_, p2⟩, ⟨?_, e2⟩, fun a ha => by have := h3 a ha; show addrB a = true; simpa using this, fun k => ?_, fun k => ?_, fun k => ?_⟩, p3, e3, l3⟩
  · have := p3 3; simp only [len4] at this; omega
  · have := e3 3; simp only [len4] at this; omega
  · have := p3 k; omega
  · have := e3 k; omega
  · have := l3 k; omega
theorem of_not {b : Bool} (h : (!b) = false) : b = true := by cases b <;> simp_all
/-- A program tells; where it tells yes, P holds. -/
def Fits (P : Prop) (w : World) (e : Ending) (w' : World) : Prop := ∃ b, e = .returned (.bool b) ∧ Below w.heap.size w w' ∧ (b = true → P)
theorem Fits.no {P : Prop} {w w' : World} (h : Below w.heap.size w w') : Fits P w (.returned (.bool false)) w' := ⟨_, rfl, h, fun h => by cases h⟩
theorem Fits.yes {P : Prop} {w w' : World} (h : Below w.heap.size w w') (p : P) : Fits P w (.returned (.bool true)) w' := ⟨_, rfl, h, fun _ => p⟩
theorem fits6_calls (A M : Option Addr) (n : NetV) (ca cm : Nat) (w : World) (h1 : n.1.length ≤ 9000000000000000000) (h2 : n.2.length ≤ 9000000000000000000) :
    Calls Tryz.prog 64 #[.agg #[.slice A n.1.length ca, .slice M n.2.length cm]] w (Fits (n.1.length ≤ 2147483647 ∧ n.2.length ≤ 2147483647) w) := by
  have hC : Blk (w.alloc (.cells #[.slice A n.1.length ca, .slice M n.2.length cm] 72)) w.heap.size 72 #[.slice A n.1.length ca, .slice M n.2.length cm] := Blk.new _ _ _
  have hb0 : Below w.heap.size w (w.alloc (.cells #[.slice A n.1.length ca, .slice M n.2.length cm] 72)) := (Below.refl _ _).alloc (Nat.le_refl _) _
  have c0 := hC.at_ 0 rfl
  have c1 := hC.at_ 1 rfl
  generalize n.1.length = x at *
  generalize n.2.length = y at *
  clear hC
  by_cases hx : x ≤ 2147483647
  · by_cases hy : y ≤ 2147483647
    · go_enter Tryz.func64, Tryz.ntmps64
      go_wp2
      go_ret
      exact .yes hb0 ⟨hx, hy⟩
    · go_enter Tryz.func64, Tryz.ntmps64
      go_wp2
      go_ret
      exact .no hb0
  · go_enter Tryz.func64, Tryz.ntmps64
    go_wp2
    go_ret
    exact .no hb0
set_option maxRecDepth 100000 in
set_option maxHeartbeats 1000000 in
theorem fits7_calls (A : Option Addr) (l : List (List UInt8)) (c : Nat) (w : World) (h : AddrsRd w A l) (hl : l.length ≤ 9000000000000000000) (hs : ∀ x ∈ l, x.length ≤ 9000000000000000000) :
    Calls Tryz.prog 45 #[.slice A l.length c] w (Fits (l.length ≤ 2147483647 ∧ ∀ x ∈ l, x.length ≤ 2147483647) w) := by
  obtain ⟨a, ac, h, _⟩ := h
  by_cases h0 : l.length ≤ 2147483647
  case neg =>
    clear h hs
    go_enter Tryz.func45, Tryz.ntmps45
    go_wp2
    go_ret
    exact .no (Below.refl _ _)
  have H := Lib.hid h
  have HS := Lib.hid hs
  clear h hs
  go_enter Tryz.func45, Tryz.ntmps45
  go_wp2
  go_loop [10] (fun i => ∃ k : Nat, i = .int .i64 k ∧ k ≤ l.length ∧ Hid (∀ x ∈ l.take k, x.length ≤ 2147483647)) (fun i => l.length - (intOf i).toNat)
  case atStart => exact ⟨0, rfl, Nat.zero_le _, fun x hx => by simp at hx⟩
  case round =>
    obtain ⟨k, rfl, hk, hr⟩ := hrel
    by_cases hlt : k < l.length
    · obtain ⟨ad, rfl, cx⟩ := H.out k hlt
      have e : l.getD k [] = l[k] := by simp [hlt]
      rw [e] at cx
      have hsz := HS.out _ (List.getElem_mem hlt)
      have hr1 := hr.out
      have hr3 : l[k].length ≤ 2147483647 → Hid (∀ x ∈ l.take (k + 1), x.length ≤ 2147483647) := fun hq x hx => by
        rw [List.take_succ_eq_append_getElem hlt] at hx
        rcases List.mem_append.1 hx with hx | hx
        · exact hr1 x hx
        · simp only [List.mem_singleton] at hx; subst hx; exact hq
      have HR3 := Lib.hid hr3
      clear hr hr1 hr3 e
      generalize l[k].length = x at *
      by_cases c1 : x ≤ 2147483647
      · have HR4 := HR3.out c1
        clear HR3
        go_wp2
        go_round
        case rel => exact ⟨k + 1, by go_num, by omega, HR4⟩
        case measure => simp only [intOf]; omega
      · clear HR3
        go_wp2
        go_ret
        exact .no (Below.refl _ _)
    · obtain rfl : k = l.length := by omega
      have hr1 := hr.out
      rw [List.take_length] at hr1
      have HR1 := Lib.hid hr1
      clear hr hr1
      go_wp2
      go_ret
      exact .yes (Below.refl _ _) (by first | exact ⟨h0, HR1.out⟩ | exact HR1.out)
set_option maxRecDepth 100000 in
set_option maxHeartbeats 1000000 in
theorem fits5_calls (A : Option Addr) (l : List NetV) (c : Nat) (w : World) (h : NetsRd w A l) (hl : l.length ≤ 9000000000000000000) (hs : ∀ x ∈ l, x.1.length ≤ 9000000000000000000 ∧ x.2.length ≤ 9000000000000000000) :
    Calls Tryz.prog 30 #[.slice A l.length c] w (Fits (l.length ≤ 2147483647 ∧ ∀ x ∈ l, x.1.length ≤ 2147483647 ∧ x.2.length ≤ 2147483647) w) := by
  obtain ⟨a, b, ac, bc, h1, _⟩ := h
  by_cases h0 : l.length ≤ 2147483647
  case neg =>
    clear h1 hs
    go_enter Tryz.func30, Tryz.ntmps30
    go_wp2
    go_ret
    exact .no (Below.refl _ _)
  have H1 := Lib.hid h1
  have HS := Lib.hid hs
  clear h1 hs
  go_enter Tryz.func30, Tryz.ntmps30
  go_wp2
  go_loopw [10] (fun i wr => ∃ k : Nat, i = .int .i64 k ∧ k ≤ l.length ∧ Below w.heap.size w wr ∧ Hid (∀ x ∈ l.take k, x.1.length ≤ 2147483647 ∧ x.2.length ≤ 2147483647)) (fun i _ => l.length - (intOf i).toNat)
  case atStart => exact ⟨0, rfl, Nat.zero_le _, Below.refl _ _, fun x hx => by simp at hx⟩
  case round =>
    obtain ⟨k, rfl, hk, hbr, hr⟩ := hrel
    by_cases hlt : k < l.length
    · obtain ⟨g, off, rfl, hcell⟩ := H1.out (by omega)
      obtain ⟨p0, p1⟩ := hcell k hlt
      have hgd : l.getD k ([], []) = l[k] := by simp [hlt]
      simp only [hgd] at p0 p1
      have P0 := cell_keep hbr p0
      have P1 := cell_keep hbr p1
      have hsz := HS.out _ (List.getElem_mem hlt)
      have hr1 := hr.out
      have hr3 : l[k].1.length ≤ 2147483647 ∧ l[k].2.length ≤ 2147483647 → Hid (∀ x ∈ l.take (k + 1), x.1.length ≤ 2147483647 ∧ x.2.length ≤ 2147483647) := fun hq x hx => by
        rw [List.take_succ_eq_append_getElem hlt] at hx
        rcases List.mem_append.1 hx with hx | hx
        · exact hr1 x hx
        · simp only [List.mem_singleton] at hx; subst hx; exact hq
      have HR3 := Lib.hid hr3
      have HK := Lib.hid (fun (W : World) => fits6_calls (a k) (b k) l[k] (ac k) (bc k) W hsz.1 hsz.2)
      clear hr hr1 hr3 hgd p0 p1 hcell
      generalize l[k].1.length = x at *
      generalize l[k].2.length = y at *
      have bA := hbr.alloc hbr.size (.cells #[.slice (a k) x (ac k), .slice (b k) y (bc k)] 72)
      go_wp2_with (first
        | (go_at_call 64; (with_reducible refine (HK.out _).mono ?_); rintro e w1 ⟨q, rfl, hb1, hq⟩; have B1 := bA.trans (hb1.mono bA.size); have HQ := Lib.hid (fun hh => HR3.out (hq hh)); clear HR3 HK hq; cases q)
        | fail)
      · go_ret
        exact .no B1
      · go_roundw
        case rel => exact ⟨k + 1, by go_num, by omega, B1, by first | exact HQ.out trivial | exact HQ.out rfl⟩
        case measure => simp only [intOf]; omega
    · obtain rfl : k = l.length := by omega
      have hr1 := hr.out
      rw [List.take_length] at hr1
      have HR1 := Lib.hid hr1
      clear hr hr1
      go_wp2
      go_ret
      exact .yes hbr (by first | exact ⟨h0, HR1.out⟩ | exact HR1.out)
theorem fits4' (A : Option Addr) (l : List ByteArray) (c : Nat) (w : World) (h : Reads w w.heap.size 1 A l.length (l.map .string)) (hl : l.length ≤ 9000000000000000000 ∧ ∀ x ∈ l, x.size ≤ 9000000000000000000) :
    Calls Tryz.prog 11 #[.slice A l.length c] w (Fits (l.length ≤ 2147483647 ∧ ∀ x ∈ l, x.size ≤ 2147483647) w) :=
  (fits4_calls A l c w h.cellAt hl.1 hl.2).mono fun _ _ ⟨b, e1, e2, h⟩ => ⟨b, e1, e2 ▸ Below.refl _ _, h⟩
set_option maxRecDepth 100000 in
set_option maxHeartbeats 1000000 in
theorem fits3_calls (pA : Nat → Option Addr) (pc : Nat → Nat) (p : Nat → List ByteArray) (nets : List NetV) (w : World) (h : NamesRd w pA p nets) (hs : NamesSz 9000000000000000000 p nets) :
    Calls Tryz.prog 44 #[nval pA (len4 p nets.length) pc] w (Fits (NamesSz 2147483647 p nets) w) := by
  have hC : Blk (w.alloc (.cells #[.slice (pA 0) (p 0).length (pc 0), .slice (pA 1) (p 1).length (pc 1), .slice (pA 2) (p 2).length (pc 2), .slice (pA 3) nets.length (pc 3)] 27)) w.heap.size 27 #[.slice (pA 0) (p 0).length (pc 0), .slice (pA 1) (p 1).length (pc 1), .slice (pA 2) (p 2).length (pc 2), .slice (pA 3) nets.length (pc 3)] := Blk.new _ _ _
  have hb0 : Below w.heap.size w (w.alloc (.cells #[.slice (pA 0) (p 0).length (pc 0), .slice (pA 1) (p 1).length (pc 1), .slice (pA 2) (p 2).length (pc 2), .slice (pA 3) nets.length (pc 3)] 27)) := (Below.refl _ _).alloc (Nat.le_refl _) _
  have K0 := Lib.hid (fun (W : World) (hW : Below w.heap.size w W) => fits4' (pA 0) (p 0) (pc 0) W ((h.later hW).t 0 (by omega)) (hs.l 0 (by omega)))
  have K1 := Lib.hid (fun (W : World) (hW : Below w.heap.size w W) => fits4' (pA 1) (p 1) (pc 1) W ((h.later hW).t 1 (by omega)) (hs.l 1 (by omega)))
  have K2 := Lib.hid (fun (W : World) (hW : Below w.heap.size w W) => fits4' (pA 2) (p 2) (pc 2) W ((h.later hW).t 2 (by omega)) (hs.l 2 (by omega)))
  have K3 := Lib.hid (fun (W : World) (hW : Below w.heap.size w W) => fits5_calls (pA 3) nets (pc 3) W (h.later hW).n hs.n.1 hs.n.2)
  have hfin : ∀ a0 : (p 0).length ≤ 2147483647 ∧ ∀ x ∈ p 0, x.size ≤ 2147483647, ∀ a1 : (p 1).length ≤ 2147483647 ∧ ∀ x ∈ p 1, x.size ≤ 2147483647, ∀ a2 : (p 2).length ≤ 2147483647 ∧ ∀ x ∈ p 2, x.size ≤ 2147483647,
      ∀ a3 : nets.length ≤ 2147483647 ∧ ∀ x ∈ nets, x.1.length ≤ 2147483647 ∧ x.2.length ≤ 2147483647, NamesSz 2147483647 p nets := fun a0 a1 a2 a3 => ⟨fun k hk => by
    match k, hk with
    | 0, _ => exact a0
    | 1, _ => exact a1
    | 2, _ => exact a2, a3⟩
  clear h hs
  unfold nval len4
  simp only
  generalize ((p 0).length ≤ 2147483647 ∧ ∀ x ∈ p 0, x.size ≤ 2147483647) = P0 at *
  generalize ((p 1).length ≤ 2147483647 ∧ ∀ x ∈ p 1, x.size ≤ 2147483647) = P1 at *
  generalize ((p 2).length ≤ 2147483647 ∧ ∀ x ∈ p 2, x.size ≤ 2147483647) = P2 at *
  generalize (nets.length ≤ 2147483647 ∧ ∀ x ∈ nets, x.1.length ≤ 2147483647 ∧ x.2.length ≤ 2147483647) = P3 at *
  generalize NamesSz 2147483647 p nets = PF at *
  generalize (p 0).length = l0 at *
  generalize (p 1).length = l1 at *
  generalize (p 2).length = l2 at *
  generalize nets.length = l3 at *
  have HF := Lib.hid hfin
  clear hfin
  have c0 := hC.at_ 0 rfl
  have c1 := hC.at_ 1 rfl
  have c2 := hC.at_ 2 rfl
  have c3 := hC.at_ 3 rfl
  go_enter Tryz.func44, Tryz.ntmps44
  go_wp2_with (first
    | (go_at_call 11; (with_reducible refine (K0.out _ hb0).mono ?_); rintro e w1 ⟨q1, rfl, hb1, f1⟩; have HF1 := Lib.hid f1; clear f1; have B1 := hb0.trans (hb1.mono hb0.size); have D1 := hC.later hb1; have d0 := D1.at_ 0 rfl; have d1 := D1.at_ 1 rfl; have d2 := D1.at_ 2 rfl; have d3 := D1.at_ 3 rfl)
    | (go_at_call 11; (with_reducible refine (K1.out _ B1).mono ?_); rintro e w2 ⟨q2, rfl, hb2, f2⟩; have HF2 := Lib.hid f2; clear f2; have B2 := B1.trans (hb2.mono B1.size); have D2 := D1.later hb2; have e0 := D2.at_ 0 rfl; have e1 := D2.at_ 1 rfl; have e2 := D2.at_ 2 rfl; have e3 := D2.at_ 3 rfl)
    | (go_at_call 11; (with_reducible refine (K2.out _ B2).mono ?_); rintro e w3 ⟨q3, rfl, hb3, f3⟩; have HF3 := Lib.hid f3; clear f3; have B3 := B2.trans (hb3.mono B2.size); have D3 := D2.later hb3; have g0 := D3.at_ 0 rfl; have g1 := D3.at_ 1 rfl; have g2 := D3.at_ 2 rfl; have g3 := D3.at_ 3 rfl)
    | (go_at_call 30; (with_reducible refine (K3.out _ B3).mono ?_); rintro e w4 ⟨q4, rfl, hb4, f4⟩; have HF4 := Lib.hid f4; clear f4; have B4 := B3.trans (hb4.mono B3.size))
    | fail)
  all_goals go_ret
  all_goals first
    | exact .no B1
    | exact .no B2
    | exact .no B3
    | exact .no B4
    | exact .yes B4 (HF.out (HF1.out (of_not ‹(!q1) = false›)) (HF2.out (of_not ‹(!q2) = false›)) (HF3.out (of_not ‹(!q3) = false›)) (HF4.out (of_not ‹(!q4) = false›)))
set_option maxRecDepth 100000 in
set_option maxHeartbeats 2000000 in
theorem fits2_calls (z : GSlots) (c : GC) (w : World) (h : CertRd w z c) (hs : CertSz 9000000000000000000 c) :
    Calls Tryz.prog 18 #[z.val c] w (Fits (CertSz 2147483647 c) w) := by
  have hC : Blk (w.alloc (.cells (z.cells c) 30)) w.heap.size 30 (z.cells c) := Blk.new _ _ _
  have hb0 : Below w.heap.size w (w.alloc (.cells (z.cells c) 30)) := (Below.refl _ _).alloc (Nat.le_refl _) _
  have KP := Lib.hid (fun (W : World) (hW : Below w.heap.size w W) => fits3_calls z.pA z.pc c.p c.pn W (h.p.later hW) hs.p)
  have KE := Lib.hid (fun (W : World) (hW : Below w.heap.size w W) => fits3_calls z.eA z.ec c.e c.en W (h.e.later hW) hs.e)
  have K0 := Lib.hid (fun (W : World) (hW : Below w.heap.size w W) => fits4' (z.fA 0) (c.s 0) (z.fc 0) W ((h.later hW).s 0 (by omega)) (hs.s 0 (by omega)))
  have K1 := Lib.hid (fun (W : World) (hW : Below w.heap.size w W) => fits4' (z.fA 1) (c.s 1) (z.fc 1) W ((h.later hW).s 1 (by omega)) (hs.s 1 (by omega)))
  have K2 := Lib.hid (fun (W : World) (hW : Below w.heap.size w W) => fits4' (z.fA 2) (c.s 2) (z.fc 2) W ((h.later hW).s 2 (by omega)) (hs.s 2 (by omega)))
  have K3 := Lib.hid (fun (W : World) (hW : Below w.heap.size w W) => fits7_calls (z.fA 3) c.ad (z.fc 3) W (h.a.later hW) hs.a.1 hs.a.2)
  have hfin : ∀ _ : NamesSz 2147483647 c.p c.pn, ∀ _ : NamesSz 2147483647 c.e c.en, ∀ _ : (c.s 0).length ≤ 2147483647 ∧ ∀ x ∈ c.s 0, x.size ≤ 2147483647, ∀ _ : (c.s 1).length ≤ 2147483647 ∧ ∀ x ∈ c.s 1, x.size ≤ 2147483647, ∀ _ : (c.s 2).length ≤ 2147483647 ∧ ∀ x ∈ c.s 2, x.size ≤ 2147483647,
      ∀ _ : c.ad.length ≤ 2147483647 ∧ ∀ x ∈ c.ad, x.length ≤ 2147483647, CertSz 2147483647 c := fun a b a0 a1 a2 a3 => ⟨a, b, fun k hk => by
    match k, hk with
    | 0, _ => exact a0
    | 1, _ => exact a1
    | 2, _ => exact a2, a3⟩
  clear h hs
  unfold GSlots.val cval len4
  unfold GSlots.cells at hC hb0
  unfold nval len4 at KP KE
  simp only at *
  generalize CertSz 2147483647 c = PF at *
  generalize NamesSz 2147483647 c.p c.pn = PP at *
  generalize NamesSz 2147483647 c.e c.en = PE at *
  generalize ((c.s 0).length ≤ 2147483647 ∧ ∀ x ∈ c.s 0, x.size ≤ 2147483647) = P0 at *
  generalize ((c.s 1).length ≤ 2147483647 ∧ ∀ x ∈ c.s 1, x.size ≤ 2147483647) = P1 at *
  generalize ((c.s 2).length ≤ 2147483647 ∧ ∀ x ∈ c.s 2, x.size ≤ 2147483647) = P2 at *
  generalize (c.ad.length ≤ 2147483647 ∧ ∀ x ∈ c.ad, x.length ≤ 2147483647) = P3 at *
  generalize (c.s 0).length = n0 at *
  generalize (c.s 1).length = n1 at *
  generalize (c.s 2).length = n2 at *
  generalize c.ad.length = n3 at *
  have HF := Lib.hid hfin
  have HC := Lib.hid hC
  clear hC hfin
  obtain ⟨d0, d1, d2, d3, d4, d5, d6, d7, d8, d9, d10, d11, e5, e6, e7⟩ := cells12 HC.out
  go_enter Tryz.func18, Tryz.ntmps18
  go_wp2_with (first
    | (go_at_call 44; (with_reducible refine (KP.out _ hb0).mono ?_); rintro e w1 ⟨q1, rfl, hb1, f1⟩; have HF1 := Lib.hid f1; clear f1; have B1 := hb0.trans (hb1.mono hb0.size); have HC1 := Lib.hid (HC.out.later hb1); obtain ⟨f0, f1, f2, f3, f4, f5, f6, f7, f8, f9, f10, f11, fe5, fe6, fe7⟩ := cells12 HC1.out)
    | (go_at_call 44; (with_reducible refine (KE.out _ B1).mono ?_); rintro e w2 ⟨q2, rfl, hb2, f2⟩; have HF2 := Lib.hid f2; clear f2; have B2 := B1.trans (hb2.mono B1.size); have HC2 := Lib.hid (HC1.out.later hb2); obtain ⟨g0, g1, g2, g3, g4, g5, g6, g7, g8, g9, g10, g11, ge5, ge6, ge7⟩ := cells12 HC2.out)
    | (go_at_call 11; (with_reducible refine (K0.out _ B2).mono ?_); rintro e w3 ⟨q3, rfl, hb3, f3⟩; have HF3 := Lib.hid f3; clear f3; have B3 := B2.trans (hb3.mono B2.size); have HC3 := Lib.hid (HC2.out.later hb3); obtain ⟨h0, h1, h2, h3, h4, h5, h6, h7, h8, h9, h10, h11, he5, he6, he7⟩ := cells12 HC3.out)
    | (go_at_call 11; (with_reducible refine (K1.out _ B3).mono ?_); rintro e w4 ⟨q4, rfl, hb4, f4⟩; have HF4 := Lib.hid f4; clear f4; have B4 := B3.trans (hb4.mono B3.size); have HC4 := Lib.hid (HC3.out.later hb4); obtain ⟨i0, i1, i2, i3, i4, i5, i6, i7, i8, i9, i10, i11, ie5, ie6, ie7⟩ := cells12 HC4.out)
    | (go_at_call 11; (with_reducible refine (K2.out _ B4).mono ?_); rintro e w5 ⟨q5, rfl, hb5, f5⟩; have HF5 := Lib.hid f5; clear f5; have B5 := B4.trans (hb5.mono B4.size); have HC5 := Lib.hid (HC4.out.later hb5); obtain ⟨j0, j1, j2, j3, j4, j5, j6, j7, j8, j9, j10, j11, je5, je6, je7⟩ := cells12 HC5.out)
    | (go_at_call 45; (with_reducible refine (K3.out _ B5).mono ?_); rintro e w6 ⟨q6, rfl, hb6, f6⟩; have HF6 := Lib.hid f6; clear f6; have B6 := B5.trans (hb6.mono B5.size))
    | fail)
  all_goals go_ret
  all_goals first
    | exact .no B1
    | exact .no B2
    | exact .no B3
    | exact .no B4
    | exact .no B5
    | exact .no B6
    | exact .yes B6 (HF.out (HF1.out (of_not ‹(!q1) = false›)) (HF2.out (of_not ‹(!q2) = false›)) (HF3.out (of_not ‹(!q3) = false›)) (HF4.out (of_not ‹(!q4) = false›)) (HF5.out (of_not ‹(!q5) = false›)) (HF6.out (of_not ‹(!q6) = false›)))
end Go.Proofs.YtblabjfjhlablaaGreatDoor
