/- Words for memory: a block that is known whole; what a sort leaves of it; what a pruned row holds. -/
import Derived.Test.YtblabjfjhlablaaGreatDoorW2
import Derived.Test.YtblabjfjhlablaaGreatDoorNc
import Derived.Shelf.SlSortCmp.Whole1
namespace Go.Proofs.YtblabjfjhlablaaGreatDoor
open Go.RowKit Go.Sort Nc

/-- Block g is just the cells cs of type t, none frozen. -/
def Blk (w : World) (g : Nat) (t : TypeId) (cs : Array Value) : Prop := w.heap[g]? = some (.cells cs t (0, 0))

section
variable {w w' : World} {g : Nat} {t : TypeId} {cs : Array Value}
theorem Blk.lt (h : Blk w g t cs) : g < w.heap.size := by
  rcases Nat.lt_or_ge g w.heap.size with hlt | hge
  · exact hlt
  · unfold Blk at h; rw [Array.getElem?_eq_none hge] at h; cases h
theorem Blk.cell (h : Blk w g t cs) (i : Nat) : w.cell? ⟨g, i, none⟩ = cs[i]? := cell_of_row w g i cs t (0, 0) h
theorem Blk.at_ (h : Blk w g t cs) (i : Nat) {v : Value} (hv : cs[i]? = some v) : w.cell? ⟨g, i, none⟩ = some v := (h.cell i).trans hv
theorem Blk.frozen (h : Blk w g t cs) (i : Nat) : w.frozen? ⟨g, i, none⟩ = false := by
  unfold Blk at h
  simp [World.frozen?, h]
theorem Blk.new (w : World) (t : TypeId) (cs : Array Value) : Blk (w.alloc (.cells cs t)) w.heap.size t cs := heap_alloc_new w _
theorem Blk.drew (h : Blk w g t cs) : Blk w.drew g t cs := h
theorem Blk.drewN (h : Blk w g t cs) (n : Nat) : Blk (w.drewN n) g t cs := h
theorem Blk.alloc (h : Blk w g t cs) (o : Obj) : Blk (w.alloc o) g t cs := (Below.heap_alloc w o g h.lt).trans h
theorem Blk.set_ (h : Blk w g t cs) (i : Nat) (u : Value) : Blk (w.setCell ⟨g, i, none⟩ u) g t (cs.setIfInBounds i u) := by
  unfold Blk at h ⊢
  simp [World.setCell, Array.getElem?_modify, h]
theorem Blk.far (h : Blk w g t cs) {p : Addr} (hp : g ≠ p.block) (u : Value) : Blk (w.setCell p u) g t cs := (Below.heap_setCell w p u g hp).trans h
theorem Blk.below {B : Nat} (h : Blk w g t cs) (hb : Below B w w') (hg : g < B) : Blk w' g t cs := (hb.block g hg).trans h
theorem Blk.later (h : Blk w g t cs) (hb : Below w.heap.size w w') : Blk w' g t cs := h.below hb h.lt
theorem Blk.grown {row : Option Nat} (h : Blk w g t cs) (hb : w.grownBy w' row) (hg : some g ≠ row) : Blk w' g t cs := (hb.block g h.lt hg).trans h
theorem Blk.ne_ {g' : Nat} {t' : TypeId} {cs' : Array Value} (h : Blk w g t cs) (h' : Blk w g' t' cs') (hne : t ≠ t') : g ≠ g' := by
  rintro rfl
  unfold Blk at h h'
  rw [h] at h'
  injection h' with h'
  injection h' with _ ht
  exact hne ht
theorem Blk.inj {t' : TypeId} {cs' : Array Value} (h : Blk w g t cs) (h' : Blk w g t' cs') : cs = cs' := by
  unfold Blk at h h'
  rw [h] at h'
  injection h' with h'
  injection h' with h' _
end

/-- Nothing turns but block g and what is new. -/
structure Only (g : Nat) (w w' : World) : Prop where
  below : ∀ B, B ≤ g → B ≤ w.heap.size → Below B w w'
  size : w.heap.size ≤ w'.heap.size
  block : ∀ k, k < w.heap.size → k ≠ g → w'.heap[k]? = w.heap[k]?
  os : w'.os = w.os
  tape : w'.tape = w.tape
  output : w'.output = w.output
theorem Only.blk {g k : Nat} {t : TypeId} {cs : Array Value} {w w' : World} (h : Only g w w') (hb : Blk w k t cs) (hk : k ≠ g) : Blk w' k t cs := (h.block k hb.lt hk).trans hb
theorem Only.of (g : Nat) {w w' : World} (hs : w.heap.size ≤ w'.heap.size) (hb : ∀ k, k < w.heap.size → k ≠ g → w'.heap[k]? = w.heap[k]?) (ho : w'.os = w.os) (ht : w'.tape = w.tape) (hu : w'.output = w.output) : Only g w w' :=
  ⟨fun B h1 h2 => ⟨ho, ht, hu, hs, fun k hk => hb k (by omega) (by omega)⟩, hs, hb, ho, ht, hu⟩

/-- What stands in a row behind a sort. -/
theorem sortWorld_only {α : Type} [Inhabited α] (enc : α → Value) (w : World) (g n : Nat) (d : Array α) (os : Array Obj) : Only g w (sortWorld enc w g 0 n d os) := by
  refine Only.of g ?_ ?_ rfl rfl rfl
  · simp [sortWorld, grow, putRow, mapBlock, Sort.ahead]
  · intro k hk hne
    simp only [sortWorld, grow, putRow, mapBlock, Sort.ahead]
    rw [Array.getElem?_append_left (by simpa using hk), Array.getElem?_modify, if_neg (fun e => hne e.symm)]
theorem sortWorld_blk {α : Type} [Inhabited α] (enc : α → Value) (w : World) (g n : Nat) (d : Array α) (os : Array Obj) {t : TypeId} {cs : Array Value} (h : Blk w g t cs) :
    Blk (sortWorld enc w g 0 n d os) g t (putCells enc 0 d cs) := by
  have hl := h.lt
  unfold Blk at h ⊢
  simp only [sortWorld, grow, putRow, mapBlock, Sort.ahead]
  rw [Array.getElem?_append_left (by simpa using hl), Array.getElem?_modify, if_pos rfl, h]
  rfl
theorem putCells_get {α : Type} [Inhabited α] (enc : α → Value) (d : Array α) (cs : Array Value) (j : Nat) (h : j < d.size) (hc : d.size ≤ cs.size) : (putCells enc 0 d cs)[j]? = some (enc d[j]!) := by
  unfold putCells
  rw [Array.getElem?_mapIdx, Array.getElem?_eq_getElem (by omega)]
  simp [h]
theorem putCells_size {α : Type} [Inhabited α] (enc : α → Value) (d : Array α) (cs : Array Value) : (putCells enc 0 d cs).size = cs.size := by simp [putCells]

/-- A row in the middle of pruning: k are kept, r have been looked at. -/
def Pruning {α : Type} (enc : α → Value) (sub : α → α → Bool) (srt : List α) (k r : Nat) (cur : Array Value) : Prop :=
  ∃ (K : List α) (last : α), K.length + 1 = k ∧ (∀ (j : Nat) (x : α), (K ++ [last])[j]? = some x → cur[j]? = some (enc x)) ∧ (∀ (j : Nat) (x : α), r ≤ j → srt[j]? = some x → cur[j]? = some (enc x)) ∧
    prune sub srt = K ++ last :: pruneFrom sub last (srt.drop r) ∧ k ≤ r ∧ r ≤ srt.length ∧ srt.length ≤ cur.size
section
variable {α : Type} {enc : α → Value} {sub : α → α → Bool} {srt : List α} {k r : Nat} {cur : Array Value}
theorem Pruning.start {x : α} {xs : List α} (hc : ∀ (j : Nat) (y : α), (x :: xs)[j]? = some y → cur[j]? = some (enc y)) (hs : (x :: xs).length ≤ cur.size) : Pruning enc sub (x :: xs) 1 1 cur :=
  ⟨[], x, rfl, fun j y hy => by
    cases j with
    | zero => exact hc 0 y (by simpa using hy)
    | succ j => simp at hy, fun j y _ hy => hc j y hy, rfl, Nat.le_refl _, by simp, hs⟩
theorem Pruning.look (h : Pruning enc sub srt k r cur) (hr : r < srt.length) : ∃ last y : α, cur[k - 1]? = some (enc last) ∧ cur[r]? = some (enc y) ∧
    (sub last y = true → Pruning enc sub srt k (r + 1) cur) ∧ (sub last y = false → Pruning enc sub srt (k + 1) (r + 1) (cur.setIfInBounds k (enc y))) := by
  obtain ⟨K, last, hk, h1, h2, h3, hkr, hrl, hsz⟩ := h
  have hy : srt[r]? = some srt[r] := List.getElem?_eq_getElem hr
  have hd : srt.drop r = srt[r] :: srt.drop (r + 1) := List.drop_eq_getElem_cons hr
  refine ⟨last, srt[r], h1 (k - 1) last (by rw [← hk]; simp), h2 r _ (Nat.le_refl _) hy, fun hs => ?_, fun hs => ?_⟩
  · refine ⟨K, last, hk, h1, fun j x hj hx => h2 j x (by omega) hx, ?_, by omega, by omega, hsz⟩
    rw [h3, hd, pruneFrom, if_pos hs]
  · refine ⟨K ++ [last], srt[r], by simp [hk], fun j x hx => ?_, fun j x hj hx => ?_, ?_, by omega, by omega, by simpa using hsz⟩
    · rw [Array.getElem?_setIfInBounds]
      by_cases hjk : k = j
      · subst hjk
        rw [if_pos rfl, if_pos (by omega)]
        rw [List.getElem?_append_right (by simp; omega)] at hx
        simp [hk] at hx
        rw [hx]
      · rw [if_neg hjk]
        refine h1 j x ?_
        rw [List.getElem?_append] at hx
        split at hx
        · exact hx
        · rename_i hn
          rw [List.getElem?_eq_none (by simp at hn ⊢; omega)] at hx
          cases hx
    · rw [Array.getElem?_setIfInBounds, if_neg (by omega)]
      exact h2 j x (by omega) hx
    · rw [h3, hd, pruneFrom, if_neg (by simp [hs])]; simp
theorem Pruning.done (h : Pruning enc sub srt k srt.length cur) : (prune sub srt).length = k ∧ ∀ (j : Nat) (x : α), (prune sub srt)[j]? = some x → cur[j]? = some (enc x) := by
  obtain ⟨K, last, hk, h1, _, h3, _, _, _⟩ := h
  rw [List.drop_length] at h3
  simp only [pruneFrom] at h3
  rw [h3]
  exact ⟨by simp [hk], h1⟩
end
end Go.Proofs.YtblabjfjhlablaaGreatDoor
