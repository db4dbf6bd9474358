/- Chains of two certificates of DNS alone: names of one, constraints of the other. -/
import Derived.Test.YtblabjfjhlablaaGreatDoorW21
namespace Go.Proofs.YtblabjfjhlablaaGreatDoor
open Go.RowKit Nc
def two {α : Type} (a b : α) (i : Nat) : α := match i with | 0 => a | _ => b
theorem dnsRefused_two (a b : DCert) : dnsRefused (two a b) 2 ↔ dnsBad a b = true := by
  constructor
  · rintro ⟨i, j, h1, h2, h3⟩
    obtain rfl : i = 0 := by omega
    obtain rfl : j = 1 := by omega
    exact h3
  · intro h
    exact ⟨0, 1, by omega, by omega, h⟩
def nilS : Value := .slice none 0 0
def twoCells (p e s : Value) : Array Value := #[nilS, nilS, nilS, nilS, nilS, nilS, nilS, nilS, s, nilS, nilS, nilS, p, nilS, nilS, nilS, e, nilS, nilS, nilS, nilS, nilS, nilS, nilS]
theorem twoCells_at (p e s : Value) (k j : Nat) (hk : k < 2) (hj : j < 4) :
    (twoCells p e s)[k * 12 + j]? = some (if k = 1 ∧ j = 0 then p else nilS) ∧ (twoCells p e s)[k * 12 + (4 + j)]? = some (if k = 1 ∧ j = 0 then e else nilS) ∧ (twoCells p e s)[k * 12 + (8 + j)]? = some (if k = 0 ∧ j = 0 then s else nilS) := by
  have hk2 : k = 0 ∨ k = 1 := by omega
  have hj2 : j = 0 ∨ j = 1 ∨ j = 2 ∨ j = 3 := by omega
  rcases hk2 with rfl | rfl <;> rcases hj2 with rfl | rfl | rfl | rfl <;> exact ⟨rfl, rfl, rfl⟩
theorem dnsTwo_calls (p e ss : List ByteArray) (pA eA sA : Option Addr) (pc ec sc g cap : Nat) (w : World) (hL : Laid w) (hg : Blk w g 30 (twoCells (.slice pA p.length pc) (.slice eA e.length ec) (.slice sA ss.length sc)))
    (hp : Reads w w.heap.size 1 pA p.length (p.map .string)) (he : Reads w w.heap.size 1 eA e.length (e.map .string)) (hs : Reads w w.heap.size 1 sA ss.length (ss.map .string))
    (pp : PlainL p) (pe : PlainL e) (ps : ∀ s ∈ ss, FitName s) (lp : p.length ≤ 1000000) (le : e.length ≤ 1000000) (ls : ss.length ≤ 1000000) :
    Calls Tryz.prog 21 #[.slice (some ⟨g, 0, none⟩) 2 cap] w fun x w' => x = .returned (.int .i64 (codeB (dnsBad ⟨[], [], ss⟩ ⟨p, e, []⟩))) ∧ Below w.heap.size w w' := by
  refine dnsChain_calls (two ⟨[], [], ss⟩ ⟨p, e, []⟩) 2 cap (some ⟨g, 0, none⟩) (two none pA) (two none eA) (two sA none) (two 0 pc) (two 0 ec) (two sc 0) w hL (by omega) (by omega) (fun i hi => ?_) (fun _ => ⟨g, 0, rfl, fun k hk j hj => ?_⟩) (fun i hi => ?_) (fun i hi => ?_) (fun i hi => ?_) _ ?_
  · have : i = 0 ∨ i = 1 := by omega
    rcases this with rfl | rfl
    · exact ⟨fun c hc => by simp [two] at hc, fun c hc => by simp [two] at hc, ps, by simp [two], by simp [two], ls⟩
    · exact ⟨pp, pe, fun c hc => by simp [two] at hc, lp, le, by simp [two]⟩
  · obtain ⟨h1, h2, h3⟩ := twoCells_at (.slice pA p.length pc) (.slice eA e.length ec) (.slice sA ss.length sc) k j hk hj
    have c1 := hg.at_ _ h1
    have c2 := hg.at_ _ h2
    have c3 := hg.at_ _ h3
    have hk2 : k = 0 ∨ k = 1 := by omega
    have hj2 : j = 0 ∨ j = 1 ∨ j = 2 ∨ j = 3 := by omega
    simp only [Nat.zero_add]
    rcases hk2 with rfl | rfl <;> rcases hj2 with rfl | rfl | rfl | rfl <;> exact ⟨c1, c2, c3⟩
  · have : i = 0 ∨ i = 1 := by omega
    rcases this with rfl | rfl
    · exact .none_
    · exact hp
  · have : i = 0 ∨ i = 1 := by omega
    rcases this with rfl | rfl
    · exact .none_
    · exact he
  · have : i = 0 ∨ i = 1 := by omega
    rcases this with rfl | rfl
    · exact hs
    · exact .none_
  · exact (dnsRefused_two _ _).symm
end Go.Proofs.YtblabjfjhlablaaGreatDoor
