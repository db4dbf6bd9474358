/- Names as constraints: they compare from behind and are laminar; the program's comparison serves the library's sort. -/
import Derived.Test.YtblabjfjhlablaaGreatDoorW2
import Derived.Test.YtblabjfjhlablaaGreatDoorMem
import Derived.Test.YtblabjfjhlablaaGreatDoorSh
import Derived.BigRegion
import Derived.StillTailTactics
namespace Go.Proofs.YtblabjfjhlablaaGreatDoor
open Go.RowKit Go.Sort Nc

/-- A constraint or a name of which the statements speak: not nothing, of 300 bytes at most, none of them 0. -/
abbrev Nam := { s : ByteArray // 0 < s.size ∧ s.size ≤ 300 ∧ NoZ s.data.toList }
instance : Inhabited Nam := ⟨⟨⟨#[97]⟩, by decide, by decide, by intro b hb; simp at hb; subst hb; decide⟩⟩
def keyN (x : Nam) : List UInt8 := x.val.data.toList.reverse
theorem keyN_noz (x : Nam) : NoZ (keyN x) := fun b hb => x.property.2.2 b (by simpa [keyN] using hb)
theorem keyN_ne (x : Nam) : keyN x ≠ [] := by
  intro h
  have := congrArg List.length h
  simp [keyN] at this
  have h2 := x.property.1
  have h3 : x.val.data.size = 0 := by rw [this]; rfl
  have h4 : x.val.data.size = x.val.size := rfl
  omega
def cmpN (x y : Nam) : Int := cmpK (keyN x) (keyN y)
def subN (x y : Nam) : Bool := sufK (keyN x) (keyN y)
theorem subN_eq (x y : Nam) : sufB x.val y.val = subN x y := by unfold sufB; rfl
def encN (x : Nam) : Value := .string x.val
theorem not_lt_swap {x y : List UInt8} (h : ¬ cmpK y x < 0) : cmpK x y ≤ 0 := by rw [cmpK_swap y x]; omega
theorem namLaminar : Laminar cmpN subN cmpN subN where
  subMat a b s h1 h2 := sufK_trans (keyN_ne a) h1 h2
  convex a b c h1 h2 h3 := sufK_between (keyN_noz a) (keyN_noz b) (not_lt_swap h1) (not_lt_swap h2) h3
  convexT a b s h1 h2 h3 := sufK_between (keyN_noz a) (keyN_noz b) (not_lt_swap h1) (by unfold cmpN at h2; omega) h3
  ahead a s h := by have := cmpK_of_preC _ _ (sufK_iff.1 h).1; unfold cmpN; omega
  exact a s h := sufK_self_of_cmp (keyN_noz a) (keyN_noz s) h
  mono a b s h1 h2 := by
    have h := cmpK_trans (keyN a) (keyN b) (keyN s) (not_lt_swap h1) (by unfold cmpN at h2; omega)
    unfold cmpN at h2 ⊢
    rcases Int.lt_or_eq_of_le h.1 with h3 | h3
    · exact h3
    · have := (h.2 h3).2; omega
  monoUp a b s h1 h2 := by
    unfold cmpN at h2 ⊢
    have e1 := cmpK_swap (keyN s) (keyN a)
    have e2 := cmpK_swap (keyN s) (keyN b)
    have h := cmpK_trans (keyN s) (keyN a) (keyN b) (by omega) (not_lt_swap h1)
    rcases Int.lt_or_eq_of_le h.1 with h3 | h3
    · omega
    · have := (h.2 h3).1; omega
theorem ltOf_true {x y : Nam} : ltOf cmpN x y = true ↔ cmpK (keyN x) (keyN y) < 0 := ⟨fun h => of_decide_eq_true h, fun h => decide_eq_true h⟩
theorem ltOf_false {x y : Nam} : ltOf cmpN x y = false ↔ ¬ cmpK (keyN x) (keyN y) < 0 := ⟨fun h => of_decide_eq_false h, fun h => decide_eq_false h⟩
theorem namSWO : SWO (ltOf cmpN) where
  irrefl x := ltOf_false.2 (by rw [cmpK_refl]; decide)
  trans x y z h1 h2 := by
    rw [ltOf_true] at *
    have h := cmpK_trans (keyN x) (keyN y) (keyN z) (by omega) (by omega)
    rcases Int.lt_or_eq_of_le h.1 with h3 | h3
    · exact h3
    · have := (h.2 h3).1; omega
  ntrans x y z h1 h2 := by
    rw [ltOf_false] at *
    have h := cmpK_trans (keyN z) (keyN y) (keyN x) (not_lt_swap h2) (not_lt_swap h1)
    have := cmpK_swap (keyN z) (keyN x)
    omega
theorem eg102 : ∀ args w, (callFunc 102 args).run Tryz.prog w = .ok (.enter 102 args) w := enters_of Tryz.func102 (by kernel_rfl) rfl
theorem two_alloc (w : World) (o : Obj) : ∃ q os', (w.alloc o).alloc o = grow (w.drewN q) os' := ⟨0, #[o, o], by rw [alloc_eq_grow, alloc_eq_grow, grow_grow]; rfl⟩
theorem namCmp (blk off size : Nat) (w : World) : CmpLays1 Tryz.prog 102 #[] encN cmpN blk off size w := by
  intro m os dk _ x y
  refine (dnsCompare_calls x.val y.val _ (by have := x.property.2.1; omega) (by have := y.property.2.1; omega)).mono ?_
  rintro e w' ⟨rfl, rfl⟩
  exact ⟨rfl, two_alloc _ _⟩
end Go.Proofs.YtblabjfjhlablaaGreatDoor
