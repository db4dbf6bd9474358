/- The walk of codeOf: 0 where a check says nothing, 1 where it says a refusal. -/
import Derived.Test.YtblabjfjhlablaaGreatDoorW8
import Derived.Deep.RegionHeld3
namespace Go.Proofs.YtblabjfjhlablaaGreatDoor
open Go.RowKit Nc
def endNot : ByteArray := ⟨#[105, 115, 32, 110, 111, 116, 32, 112, 101, 114, 109, 105, 116, 116, 101, 100, 32, 98, 121, 32, 97, 110, 121, 32, 99, 111, 110, 115, 116, 114, 97, 105, 110, 116]⟩
def endEx : ByteArray := ⟨#[105, 115, 32, 101, 120, 99, 108, 117, 100, 101, 100, 32, 98, 121, 32, 97, 32, 99, 111, 110, 115, 116, 114, 97, 105, 110, 116]⟩
def endsWith (s b : ByteArray) : Bool := if b.size ≤ s.size then (s.extract (s.size - b.size) s.size).toList == b.toList else false
set_option maxHeartbeats 1000000 in
theorem ends_calls (s b : ByteArray) (w : World) (hs : s.size ≤ 4611686018427387904) (hb : b.size ≤ 4611686018427387904) :
    Calls Tryz.prog 72 #[.string s, .string b] w fun e w' => e = .returned (.bool (endsWith s b)) ∧ w = w' := by
  by_cases h : b.size ≤ s.size
  · have hR : endsWith s b = ((s.extract (s.size - b.size) s.size).toList == b.toList) := by unfold endsWith; rw [if_pos h]
    rw [hR]
    go_enter Tryz.func72, Tryz.ntmps72
    go_wp2
    go_ret
    exact ⟨rfl, rfl⟩
  · have hR : endsWith s b = false := by unfold endsWith; rw [if_neg h]
    rw [hR]
    go_enter Tryz.func72, Tryz.ntmps72
    go_wp2
    go_ret
    exact ⟨rfl, rfl⟩
theorem extract_tail (a t b : ByteArray) (k : Nat) (ht : t.size = k + b.size) (hb : t.extract k t.size = b) : (a ++ t).extract ((a ++ t).size - b.size) (a ++ t).size = b := by
  have h1 : (a ++ t).size = a.size + t.size := by simp
  rw [h1, show a.size + t.size - b.size = a.size + k by omega, ← hb]
  apply ByteArray.ext
  simp only [ByteArray.data_extract, ByteArray.data_append]
  have e : a.data.size = a.size := rfl
  rw [Array.extract_append, e, show a.size + k - a.size = k by omega, show a.size + t.size - a.size = t.size by omega, Array.extract_eq_empty_of_le (by omega)]
  simp
theorem ends_not (ty : ByteArray) : endsWith (ty ++ tailNot) endNot = true := by
  have h1 : (ty ++ tailNot).size = ty.size + tailNot.size := by simp
  have e1 : tailNot.size = 35 := rfl
  have e2 : endNot.size = 34 := rfl
  unfold endsWith
  rw [if_pos (by omega), extract_tail ty tailNot endNot 1 rfl (by decide)]
  simp
theorem ends_ex (ty : ByteArray) : endsWith (ty ++ tailEx) endEx = true := by
  have h1 : (ty ++ tailEx).size = ty.size + tailEx.size := by simp
  have e1 : tailEx.size = 28 := rfl
  have e2 : endEx.size = 27 := rfl
  unfold endsWith
  rw [if_pos (by omega), extract_tail ty tailEx endEx 1 rfl (by decide)]
  simp
theorem ends_ex_not (ty : ByteArray) : endsWith (ty ++ tailEx) endNot = false := by
  cases hc : endsWith (ty ++ tailEx) endNot with
  | false => rfl
  | true =>
    exfalso
    have h1 : (ty ++ tailEx).size = ty.size + tailEx.size := by simp
    have e1 : tailEx.size = 28 := rfl
    have e2 : endNot.size = 34 := rfl
    unfold endsWith at hc
    by_cases h : endNot.size ≤ (ty ++ tailEx).size
    · rw [if_pos h] at hc
      have hc := beq_iff_eq.1 hc
      rw [ByteArray.toList_eq, ByteArray.toList_eq] at hc
      have h3 := congrArg (fun l : List UInt8 => l[20]?) hc
      simp only [ByteArray.data_extract, ByteArray.data_append] at h3
      have e3 : ty.data.size = ty.size := rfl
      have e4 : tailEx.data.size = 28 := rfl
      rw [Array.getElem?_toList, Array.getElem?_extract] at h3
      rw [if_pos (by simp only [Array.size_append]; omega), Array.getElem?_append_right (by omega)] at h3
      rw [show (ty ++ tailEx).size - endNot.size + 20 - ty.data.size = 14 by omega] at h3
      revert h3
      decide
    · rw [if_neg h] at hc
      cases hc
theorem meth257 (a : Addr) (w : World) : (method 424 207 (.pointer (some a)) "Error").run Tryz.prog w = .ok (257, .pointer (some a)) w := by kernel_rfl
theorem errErr_calls (E : Nat) (t : ByteArray) (w : World) (h : Blk w E 209 #[.string t]) : Calls Tryz.prog 257 #[.pointer (some ⟨E, 0, none⟩)] w fun e w' => e = .returned (.string t) ∧ w = w' := by
  have c0 := h.at_ 0 rfl
  go_enter Tryz.func257, Tryz.ntmps257
  go_wp2
  go_ret
  exact ⟨rfl, rfl⟩
theorem codeOf_nil (w : World) : Calls Tryz.prog 39 #[.nilIface] w fun e w' => e = .returned (.int .i64 0) ∧ w = w' := by
  go_enter Tryz.func39, Tryz.ntmps39
  go_wp2
  go_ret
  exact ⟨rfl, rfl⟩
set_option maxRecDepth 100000 in
set_option maxHeartbeats 1000000 in
theorem codeOf_not (v : Value) (ty : ByteArray) (w : World) (h : IsErr w v (ty ++ tailNot)) (hty : ty.size ≤ 100) : Calls Tryz.prog 39 #[v] w fun e w' => e = .returned (.int .i64 1) ∧ w = w' := by
  obtain ⟨E, rfl, hE⟩ := h
  have hs : (ty ++ tailNot).size ≤ 1000 := by have h1 : (ty ++ tailNot).size = ty.size + tailNot.size := by simp
                                              have e1 : tailNot.size = 35 := rfl
                                              omega
  have he := ends_not ty
  generalize ty ++ tailNot = t at *
  have hm := meth257
  have HE := Lib.hid (errErr_calls E t w hE)
  have H1 := Lib.hid (ends_calls t endNot w (by omega) (by decide))
  rw [he] at H1
  clear he
  go_enter Tryz.func39, Tryz.ntmps39
  go_wp2_with (first
    | (go_at_call 257; refine HE.out.mono ?_; rintro e w' ⟨rfl, rfl⟩)
    | (go_at_call 72; refine H1.out.mono ?_; rintro e w' ⟨rfl, rfl⟩))
  go_ret
  exact ⟨rfl, rfl⟩
set_option maxRecDepth 100000 in
set_option maxHeartbeats 1000000 in
theorem codeOf_ex (v : Value) (ty : ByteArray) (w : World) (h : IsErr w v (ty ++ tailEx)) (hty : ty.size ≤ 100) : Calls Tryz.prog 39 #[v] w fun e w' => e = .returned (.int .i64 1) ∧ w = w' := by
  obtain ⟨E, rfl, hE⟩ := h
  have hs : (ty ++ tailEx).size ≤ 1000 := by have h1 : (ty ++ tailEx).size = ty.size + tailEx.size := by simp
                                             have e1 : tailEx.size = 28 := rfl
                                             omega
  have he := ends_ex_not ty
  have he2 := ends_ex ty
  generalize ty ++ tailEx = t at *
  have hm := meth257
  have HE := Lib.hid (errErr_calls E t w hE)
  have H1 := Lib.hid (ends_calls t endNot w (by omega) (by decide))
  have H2 := Lib.hid (ends_calls t endEx w (by omega) (by decide))
  rw [he] at H1
  rw [he2] at H2
  clear he he2
  go_enter Tryz.func39, Tryz.ntmps39
  go_wp2_with (fail)
  refine HE.out.mono ?_
  rintro e w' ⟨rfl, rfl⟩
  go_wp2_with (fail)
  refine H1.out.mono ?_
  rintro e w' ⟨rfl, rfl⟩
  go_wp2_with (fail)
  refine H2.out.mono ?_
  rintro e w' ⟨rfl, rfl⟩
  go_wp2
  go_ret
  exact ⟨rfl, rfl⟩
/-- The code of an error that a check says: 0 where all is good, 1 where a name is refused. -/
theorem codeOf_calls (v : Value) (bad : Bool) (w : World) (h : (bad = false ∧ v = .nilIface) ∨ (bad = true ∧ IsRefusal w v)) : Calls Tryz.prog 39 #[v] w fun e w' => e = .returned (.int .i64 (if bad then 1 else 0)) ∧ w = w' := by
  rcases h with ⟨rfl, rfl⟩ | ⟨rfl, ty, hty, h | h⟩
  · exact codeOf_nil w
  · exact codeOf_not v ty w h hty
  · exact codeOf_ex v ty w h hty
end Go.Proofs.YtblabjfjhlablaaGreatDoor
/- Words for the chain: what its certificates come to, and the list of constraints that the check makes. -/
namespace Go.Proofs.YtblabjfjhlablaaGreatDoor
open Go.RowKit Nc
/-- A call comes to a value of which φ holds; nothing that was there has turned. -/
def Makes (φ : World → Value → Prop) (w : World) (e : Ending) (w' : World) : Prop := ∃ v, e = .returned v ∧ v.cells = #[v] ∧ v.oneCell' = true ∧ φ w' v ∧ Below w.heap.size w w'
/-- .. to such a value, and no error. -/
def Parses (φ : World → Value → Prop) (w : World) (e : Ending) (w' : World) : Prop := ∃ v, e = .returned (.tuple #[v, .nilIface]) ∧ φ w' v ∧ Below w.heap.size w w'
/-- The cells of a certificate. -/
def certCells (nc hn : Bool) (c : Nat → Value) : Array Value := #[.bool nc, .bool hn, c 2, c 3, c 4, c 5, c 6, c 7, c 8, c 9, c 10, c 11, c 12, c 13]
def txIP : ByteArray := ⟨#[73, 80, 32, 97, 100, 100, 114, 101, 115, 115]⟩
def txDNS : ByteArray := ⟨#[68, 78, 83, 32, 110, 97, 109, 101]⟩
def txURI : ByteArray := ⟨#[85, 82, 73]⟩
def txMail : ByteArray := ⟨#[101, 109, 97, 105, 108, 32, 97, 100, 100, 114, 101, 115, 115]⟩
/-- The cells of a certificate's constraints, as the chain's list holds them. -/
def ccCells (a : Nat → Value) (i : Nat) (nx : Value) : Array Value := #[.string txIP, a 0, a 1, .string txDNS, a 2, a 3, .string txURI, a 4, a 5, .string txMail, a 6, a 7, .int .i64 i, nx]
theorem hasNC_calls (C : Nat) (nc hn : Bool) (c : Nat → Value) (w : World) (h : Blk w C 116 (certCells nc hn c)) : Calls Tryz.prog 118 #[.pointer (some ⟨C, 0, none⟩)] w fun e w' => e = .returned (.bool nc) ∧ w = w' := by
  have c0 := h.at_ 0 rfl
  go_enter Tryz.func118, Tryz.ntmps118
  go_wp2
  go_ret
  exact ⟨rfl, rfl⟩
theorem hasSAN_calls (C : Nat) (nc hn : Bool) (c : Nat → Value) (w : World) (h : Blk w C 116 (certCells nc hn c)) : Calls Tryz.prog 119 #[.pointer (some ⟨C, 0, none⟩)] w fun e w' => e = .returned (.bool hn) ∧ w = w' := by
  have c0 := h.at_ 1 rfl
  go_enter Tryz.func119, Tryz.ntmps119
  go_wp2
  go_ret
  exact ⟨rfl, rfl⟩
/-- All stands as it was but blocks of chainConstraints. -/
structure Keep100 (w w' : World) : Prop where
  size : w.heap.size ≤ w'.heap.size
  block : ∀ k, k < w.heap.size → (∀ cs fr, w.heap[k]? ≠ some (.cells cs 100 fr)) → w'.heap[k]? = w.heap[k]?
theorem Keep100.of_below {w w' : World} (h : Below w.heap.size w w') : Keep100 w w' := ⟨h.size, fun k hk _ => h.block k hk⟩
theorem Keep100.setCell {w : World} {b : Nat} {cs : Array Value} (h : Blk w b 100 cs) (i : Nat) (v : Value) : Keep100 w (w.setCell ⟨b, i, none⟩ v) :=
  ⟨by simp [World.setCell], fun k _ hn => Below.heap_setCell _ _ _ _ (fun e => by subst e; exact hn _ _ h)⟩
theorem Keep100.trans {a b c : World} (h : Keep100 a b) (k : Keep100 b c) : Keep100 a c :=
  ⟨Nat.le_trans h.size k.size, fun i hi hn => (k.block i (Nat.lt_of_lt_of_le hi h.size) (fun cs fr => by rw [h.block i hi hn]; exact hn cs fr)).trans (h.block i hi hn)⟩
theorem Keep100.blk {w w' : World} (h : Keep100 w w') {g : Nat} {t : TypeId} {cs : Array Value} (hb : Blk w g t cs) (ht : t ≠ 100) : Blk w' g t cs :=
  (h.block g hb.lt (fun cs' fr e => by unfold Blk at hb; rw [hb] at e; injection e with e; injection e with _ e; exact ht e)).trans hb
/-- What is known of a chain and of what its certificates' constraints and names come to. -/
structure ChainData where
  n : Nat
  nc : Nat → Bool
  hn : Nat → Bool
  C : Nat → Nat
  cv : Nat → Nat → Value
  φ : Nat → Nat → World → Value → Prop
  ψ : Nat → Nat → World → Value → Prop
  bad : Nat → Nat → Bool
structure ChainOk (d : ChainData) (w : World) : Prop where
  cert : ∀ i, i < d.n → Blk w (d.C i) 116 (certCells (d.nc i) (d.hn i) (d.cv i))
  φmono : ∀ i q W W' v, d.φ i q W v → Keep100 W W' → d.φ i q W' v
  ψmono : ∀ i q W W' v, d.ψ i q W v → Keep100 W W' → d.ψ i q W' v
  ip0 : ∀ i, i < d.n → d.nc i = true → ∀ W, Below w.heap.size w W → Calls Tryz.prog 88 #[d.cv i 4] W (Makes (d.φ i 0) W)
  ip1 : ∀ i, i < d.n → d.nc i = true → ∀ W, Below w.heap.size w W → Calls Tryz.prog 88 #[d.cv i 5] W (Makes (d.φ i 1) W)
  dns0 : ∀ i, i < d.n → d.nc i = true → ∀ W, Below w.heap.size w W → Calls Tryz.prog 73 #[d.cv i 2, .bool true] W (Makes (d.φ i 2) W)
  dns1 : ∀ i, i < d.n → d.nc i = true → ∀ W, Below w.heap.size w W → Calls Tryz.prog 73 #[d.cv i 3, .bool false] W (Makes (d.φ i 3) W)
  uri0 : ∀ i, i < d.n → d.nc i = true → ∀ W, Below w.heap.size w W → Calls Tryz.prog 73 #[d.cv i 8, .bool true] W (Makes (d.φ i 4) W)
  uri1 : ∀ i, i < d.n → d.nc i = true → ∀ W, Below w.heap.size w W → Calls Tryz.prog 73 #[d.cv i 9, .bool false] W (Makes (d.φ i 5) W)
  mail0 : ∀ i, i < d.n → d.nc i = true → ∀ W, Below w.heap.size w W → Calls Tryz.prog 77 #[d.cv i 6, .bool true] W (Makes (d.φ i 6) W)
  mail1 : ∀ i, i < d.n → d.nc i = true → ∀ W, Below w.heap.size w W → Calls Tryz.prog 77 #[d.cv i 7, .bool false] W (Makes (d.φ i 7) W)
  uris : ∀ i, i < d.n → d.hn i = true → ∀ W, Below w.heap.size w W → Calls Tryz.prog 87 #[d.cv i 12] W (Parses (d.ψ i 0) W)
  mails : ∀ i, i < d.n → d.hn i = true → ∀ W, Below w.heap.size w W → Calls Tryz.prog 76 #[d.cv i 11] W (Parses (d.ψ i 1) W)
  check : ∀ i j, i < j → j < d.n → d.hn i = true → d.nc j = true → ∀ W (a : Nat → Value) (u m nx : Value) (b : Nat), Below w.heap.size w W → Blk W b 100 (ccCells a j nx) → (∀ q, q < 8 → d.φ j q W (a q)) → d.ψ i 0 W u → d.ψ i 1 W m →
    Calls Tryz.prog 74 #[.pointer (some ⟨b, 0, none⟩), d.cv i 10, u, m, d.cv i 13] W (Says (d.bad i j) W)
/-- The constraints that have been read so far, in their order: each certificate's number and its block. -/
def nxtOf (L : List (Nat × Nat)) (t : Nat) : Value := .pointer ((L[t + 1]?).map fun p => ⟨p.2, 0, none⟩)
def CCs (d : ChainData) (L : List (Nat × Nat)) (w : World) : Prop := ∀ (t i b : Nat), L[t]? = some (i, b) → ∃ a : Nat → Value, (∀ q, q < 8 → d.φ i q w (a q)) ∧ Blk w b 100 (ccCells a i (nxtOf L t))
def firstP (L : List (Nat × Nat)) : Value := .pointer ((L[0]?).map fun p => ⟨p.2, 0, none⟩)
def lastP (L : List (Nat × Nat)) : Value := .pointer (L.getLast?.map fun p => ⟨p.2, 0, none⟩)
/-- The list is that of the certificates with constraints ahead of k. -/
def Upto (d : ChainData) (k : Nat) (L : List (Nat × Nat)) : Prop := L.map (·.1) = (List.range k).filter d.nc ∧ L.Pairwise (fun p q => p.2 < q.2)
theorem ccCells_set (a : Nat → Value) (i : Nat) (nx v : Value) : (ccCells a i nx).setIfInBounds 13 v = ccCells a i v := rfl
theorem nxtOf_last (L : List (Nat × Nat)) (t : Nat) (h : t + 1 = L.length) : nxtOf L t = .pointer none := by
  unfold nxtOf
  rw [List.getElem?_eq_none (by omega)]; rfl
theorem nxtOf_push (L : List (Nat × Nat)) (x : Nat × Nat) (t : Nat) (h : t + 1 < L.length) : nxtOf (L ++ [x]) t = nxtOf L t := by
  unfold nxtOf
  rw [List.getElem?_append_left h]
theorem nxtOf_end (L : List (Nat × Nat)) (x : Nat × Nat) (t : Nat) (h : t + 1 = L.length) : nxtOf (L ++ [x]) t = .pointer (some ⟨x.2, 0, none⟩) := by
  unfold nxtOf
  rw [List.getElem?_append_right (by omega), show t + 1 - L.length = 0 by omega]; rfl
theorem CCs.keep {d : ChainData} {L : List (Nat × Nat)} {w0 w w' : World} (ok : ChainOk d w0) (h : CCs d L w) (hb : Below w.heap.size w w') : CCs d L w' := fun t i b ht => by
  obtain ⟨a, h1, h2⟩ := h t i b ht
  exact ⟨a, fun q hq => ok.φmono i q _ _ _ (h1 q hq) (.of_below hb), h2.later hb⟩
/-- The first one. -/
theorem CCs.first {d : ChainData} {w0 w : World} (ok : ChainOk d w0) (a : Nat → Value) (k : Nat) (hφ : ∀ q, q < 8 → d.φ k q w (a q)) : CCs d [(k, w.heap.size)] (w.alloc (.cells (ccCells a k (.pointer none)) 100)) := fun t i b ht => by
  cases t with
  | zero =>
    simp only [List.getElem?_cons_zero, Option.some.injEq, Prod.mk.injEq] at ht
    obtain ⟨rfl, rfl⟩ := ht
    refine ⟨a, fun q hq => ok.φmono _ q _ _ _ (hφ q hq) (.of_below ((Below.refl _ _).alloc (Nat.le_refl _) _)), ?_⟩
    rw [nxtOf_last _ _ rfl]
    exact Blk.new _ _ _
  | succ t => simp at ht
/-- One more: the last one's 'next' is written. -/
theorem CCs.more {d : ChainData} {L : List (Nat × Nat)} {w0 w : World} (ok : ChainOk d w0) (h : CCs d L w) (hp : L.Pairwise (fun p q => p.2 < q.2)) (a : Nat → Value) (k : Nat) (hφ : ∀ q, q < 8 → d.φ k q w (a q)) (li lb : Nat) (hl : L.getLast? = some (li, lb)) :
    CCs d (L ++ [(k, w.heap.size)]) ((w.alloc (.cells (ccCells a k (.pointer none)) 100)).setCell ⟨lb, 13, none⟩ (.pointer (some ⟨w.heap.size, 0, none⟩))) ∧ lb < w.heap.size := by
  have hlen : 0 < L.length := by
    cases L with
    | nil => simp at hl
    | cons x xs => simp
  have hla : L[L.length - 1]? = some (li, lb) := by rw [← List.getLast?_eq_getElem?]; exact hl
  obtain ⟨al, hal, hbl⟩ := h _ _ _ hla
  have hk1 : Below w.heap.size w (w.alloc (.cells (ccCells a k (.pointer none)) 100)) := (Below.refl _ _).alloc (Nat.le_refl _) _
  have hbl1 := hbl.later hk1
  have hkeep : Keep100 w ((w.alloc (.cells (ccCells a k (.pointer none)) 100)).setCell ⟨lb, 13, none⟩ (.pointer (some ⟨w.heap.size, 0, none⟩))) := (Keep100.of_below hk1).trans (Keep100.setCell hbl1 _ _)
  refine ⟨fun t i b ht => ?_, hbl.lt⟩
  by_cases ht1 : t < L.length
  · rw [List.getElem?_append_left ht1] at ht
    obtain ⟨at_, hat, hbt⟩ := h t i b ht
    refine ⟨at_, fun q hq => ok.φmono _ q _ _ _ (hat q hq) hkeep, ?_⟩
    by_cases ht2 : t + 1 < L.length
    · rw [nxtOf_push _ _ _ ht2]
      have hlt : b < lb := by
        have e1 : L[t] = (i, b) := by rw [List.getElem?_eq_getElem ht1] at ht; exact Option.some.inj ht
        have e2 : L[L.length - 1] = (li, lb) := by rw [List.getElem?_eq_getElem (by omega)] at hla; exact Option.some.inj hla
        have := List.pairwise_iff_getElem.1 hp t (L.length - 1) ht1 (by omega) (by omega)
        rw [e1, e2] at this
        exact this
      exact (hbt.later hk1).far (by simp; omega) _
    · have ht3 : t = L.length - 1 := by omega
      rw [nxtOf_end _ _ _ (by omega)]
      subst ht3
      rw [hla] at ht
      simp only [Option.some.injEq, Prod.mk.injEq] at ht
      obtain ⟨rfl, rfl⟩ := ht
      have := (hbt.later hk1).set_ 13 (.pointer (some ⟨w.heap.size, 0, none⟩))
      rw [ccCells_set] at this
      exact this
  · have htl : t = L.length := by
      have := (List.getElem?_eq_some_iff.1 ht).1
      simp at this
      omega
    subst htl
    rw [List.getElem?_append_right (Nat.le_refl _), Nat.sub_self] at ht
    simp only [List.getElem?_cons_zero, Option.some.injEq, Prod.mk.injEq] at ht
    obtain ⟨rfl, rfl⟩ := ht
    refine ⟨a, fun q hq => ok.φmono _ q _ _ _ (hφ q hq) hkeep, ?_⟩
    rw [nxtOf_last _ _ (by simp)]
    exact (Blk.new w 100 (ccCells a k (.pointer none))).far (by have := hbl.lt; simp; omega) _
theorem Upto.skip {d : ChainData} {k : Nat} {L : List (Nat × Nat)} (h : Upto d k L) (hn : d.nc k = false) : Upto d (k + 1) L := by
  refine ⟨?_, h.2⟩
  rw [h.1, List.range_succ, List.filter_append]
  simp [hn]
theorem Upto.push {d : ChainData} {k b : Nat} {L : List (Nat × Nat)} (h : Upto d k L) (hn : d.nc k = true) (hb : ∀ p ∈ L, p.2 < b) : Upto d (k + 1) (L ++ [(k, b)]) := by
  refine ⟨?_, ?_⟩
  · rw [List.map_append, h.1, List.range_succ, List.filter_append]
    simp [hn]
  · rw [List.pairwise_append]
    exact ⟨h.2, List.pairwise_singleton _ _, fun p hp q hq => by simp at hq; subst hq; exact hb p hp⟩
end Go.Proofs.YtblabjfjhlablaaGreatDoor
