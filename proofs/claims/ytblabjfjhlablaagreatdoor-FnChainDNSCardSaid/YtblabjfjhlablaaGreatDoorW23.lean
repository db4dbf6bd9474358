/- The walks of refusedChain and alone (DNS). -/
import Derived.Test.YtblabjfjhlablaaGreatDoorW22
import Derived.Test.YtblabjfjhlablaaGreatDoorW19
import Derived.Test.YtblabjfjhlablaaGreatDoorW20
namespace Go.Proofs.YtblabjfjhlablaaGreatDoor
open Go.RowKit Nc
theorem nameB_fit (s : ByteArray) (h : nameB s = true) : FitName s := by
  have f := nameB_facts s h
  exact ⟨f.pos, Nat.le_trans f.size (by decide), f.noz, f.star, f.valid⟩
def txA : ByteArray := ⟨#[97]⟩
def txB : ByteArray := ⟨#[98]⟩
theorem fitA : FitName txA := ⟨by decide, by decide, fun b hb => by simp only [txA, List.mem_singleton] at hb; subst hb; decide, fun _ => (by decide +kernel : (97 : Nat) ≠ 42), by decide +kernel⟩
theorem badAB : dnsBad ⟨[], [], [txA]⟩ ⟨[txB], [], []⟩ = true := by decide +kernel
theorem plainB : PlainL [txB] := fun c hc => by
  simp only [List.mem_singleton] at hc
  subst hc
  exact ⟨by decide, fun b hb => by simp only [txB, List.mem_singleton] at hb; subst hb; decide⟩
set_option maxRecDepth 100000 in
theorem refusedChain_calls (w : World) (hL : Laid w) : Calls Tryz.prog 20 #[] w fun x w' => x = .returned (.int .i64 1) ∧ Below w.heap.size w w' := by
  have hb1 : Below w.heap.size w (w.alloc (.cells #[.string ⟨#[97]⟩] 9)) := (Below.refl _ _).alloc (Nat.le_refl _) _
  have hz1 : (w.alloc (.cells #[.string ⟨#[97]⟩] 9)).heap.size = w.heap.size + 1 := Array.size_push _
  have ha := Blk.new w 9 #[.string ⟨#[97]⟩]
  generalize hW1 : w.alloc (.cells #[.string ⟨#[97]⟩] 9) = W1 at *
  have hb2 := hb1.alloc hb1.size (.cells #[.string ⟨#[98]⟩] 9)
  have hz2 : (W1.alloc (.cells #[.string ⟨#[98]⟩] 9)).heap.size = w.heap.size + 1 + 1 := by rw [← hz1]; exact Array.size_push _
  have hbb := Blk.new W1 9 #[.string ⟨#[98]⟩]
  rw [hz1] at hbb
  have ha2 := ha.alloc (.cells #[.string ⟨#[98]⟩] 9)
  generalize hW2 : W1.alloc (.cells #[.string ⟨#[98]⟩] 9) = W2 at *
  have hb3 := hb2.alloc hb2.size (.cells (twoCells (.slice (some ⟨w.heap.size + 1, 0, none⟩) 1 1) nilS (.slice (some ⟨w.heap.size, 0, none⟩) 1 1)) 30)
  have hc := Blk.new W2 30 (twoCells (.slice (some ⟨w.heap.size + 1, 0, none⟩) 1 1) nilS (.slice (some ⟨w.heap.size, 0, none⟩) 1 1))
  rw [hz2] at hc
  have ha3 := ha2.alloc (.cells (twoCells (.slice (some ⟨w.heap.size + 1, 0, none⟩) 1 1) nilS (.slice (some ⟨w.heap.size, 0, none⟩) 1 1)) 30)
  have hbb3 := hbb.alloc (.cells (twoCells (.slice (some ⟨w.heap.size + 1, 0, none⟩) 1 1) nilS (.slice (some ⟨w.heap.size, 0, none⟩) 1 1)) 30)
  have hq := dnsTwo_calls [txB] [] [txA] (some ⟨w.heap.size + 1, 0, none⟩) none (some ⟨w.heap.size, 0, none⟩) 1 0 1 (w.heap.size + 1 + 1) 2 _ (hL.keep hb3) hc
    ⟨rfl, fun _ => ⟨_, rfl, hbb3.lt, fun j u hu => by
      cases j with
      | zero => simp only [List.map_cons, List.getElem?_cons_zero, Option.some.injEq] at hu; subst hu; exact hbb3.at_ 0 rfl
      | succ j => simp at hu⟩⟩ .none_ ⟨rfl, fun _ => ⟨_, rfl, ha3.lt, fun j u hu => by
      cases j with
      | zero => simp only [List.map_cons, List.getElem?_cons_zero, Option.some.injEq] at hu; subst hu; exact ha3.at_ 0 rfl
      | succ j => simp at hu⟩⟩ plainB (fun c hc => by simp at hc) (fun s hs => by simp only [List.mem_singleton] at hs; subst hs; exact fitA) (by simp) (by simp) (by simp)
  rw [badAB] at hq
  unfold twoCells nilS at hq hb3
  have HQ := Lib.hid hq
  have HB := Lib.hid hb3
  clear hq hb3 hbb3 ha3 hc ha2 hbb hz2 hb2 ha hz1 hb1
  subst hW2
  subst hW1
  go_enter Tryz.func20, Tryz.ntmps20
  go_wp2_with (fail)
  refine HQ.out.mono ?_
  rintro x w1 ⟨rfl, b1⟩
  have hB := HB.out.trans (b1.mono HB.out.size)
  clear HB HQ b1
  go_wp2
  go_ret
  exact ⟨rfl, hB⟩
end Go.Proofs.YtblabjfjhlablaaGreatDoor
