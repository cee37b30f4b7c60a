/-
  Walk: sortAndPrune: the row of a set of constraints is sorted, then pruned. For whatever order and whatever subset test; no condition.
-/
import Derived.Test.YtdinnpjplgkffaaGreatDoorPSet
import Derived.Test.YtdinnpjplgkffaaGreatDoorSlZ
import Derived.Test.YtdinnpjplgkffaaGreatDoorW9
import Derived.StillTailTactics
import Derived.Deep.RegionHeld3
namespace Go.Proofs.YtdinnpjplgkffaaGreatDoor
open Go.ChangeShapes Go.WideShapes Go.ChangeAt Go.RowKit

section
variable {α : Type} [Inhabited α]
/-- All blocks but two are as they were. -/
structure Kept (wb : World) (c blk : Nat) (W : World) : Prop where
  size : wb.heap.size ≤ W.heap.size
  block : ∀ k, k < wb.heap.size → k ≠ c → k ≠ blk → W.heap[k]? = wb.heap[k]?
theorem Kept.refl (w : World) (c blk : Nat) : Kept w c blk w := ⟨Nat.le_refl _, fun _ _ _ _ => rfl⟩
theorem Kept.next {wb W W2 : World} {c blk : Nat} (h : Kept wb c blk W) (k : Below W.heap.size W W2) : Kept wb c blk W2 := ⟨Nat.le_trans h.size k.size, fun i h1 h2 h3 => (k.block i (Nat.lt_of_lt_of_le h1 h.size)).trans (h.block i h1 h2 h3)⟩
theorem Kept.set {wb W : World} {c blk : Nat} (h : Kept wb c blk W) (a : Addr) (ha : a.block = c ∨ a.block = blk) (u : Value) : Kept wb c blk (W.setCell a u) := ⟨by simp; exact h.size, fun i h1 h2 h3 => (Below.heap_setCell _ _ _ _ (by rcases ha with e | e <;> omega)).trans (h.block i h1 h2 h3)⟩
/-- The row of a set of constraints, and the set that names it. -/
structure RowP (enc : α → Value) (w0 wb : World) (c blk off cap : Nat) (d : Array α) (W : World) : Prop where
  hH : Go.Sort.Holds enc W blk off d
  hb : blk < W.heap.size
  old : Below w0.heap.size w0 W
  cell : W.cell? ⟨c, 0, none⟩ = some (.slice (some ⟨blk, off, none⟩) d.size cap)
  fr : W.frozen? ⟨c, 0, none⟩ = false
  kept : Kept wb c blk W
variable {enc : α → Value} {w0 wb W W2 : World} {c blk off cap : Nat} {d : Array α}
theorem holds_below (h : Go.Sort.Holds enc W blk off d) (hb : blk < W.heap.size) (k : Below W.heap.size W W2) : Go.Sort.Holds enc W2 blk off d := fun j hj =>
  ⟨(k.cell (p := ⟨blk, off + j, none⟩) hb).trans (h j hj).1, (k.frozen (p := ⟨blk, off + j, none⟩) hb).trans (h j hj).2⟩
theorem RowP.next (h : RowP enc w0 wb c blk off cap d W) (k : Below W.heap.size W W2) : RowP enc w0 wb c blk off cap d W2 :=
  ⟨holds_below h.hH h.hb k, Nat.lt_of_lt_of_le h.hb k.size, h.old.trans (k.mono h.old.size), (k.cell (p := ⟨c, 0, none⟩) (World.block_lt_of_cell? _ _ h.cell)).trans h.cell, (k.frozen (p := ⟨c, 0, none⟩) (World.block_lt_of_cell? _ _ h.cell)).trans h.fr, h.kept.next k⟩
theorem holds_set (h : Go.Sort.Holds enc W blk off d) (i : Nat) (hi : i < d.size) (x : α) : Go.Sort.Holds enc (W.setCell ⟨blk, off + i, none⟩ (enc x)) blk off (d.setIfInBounds i x) := by
  have e := Go.Sort.putRow_set enc W blk off d i x hi
  rw [Go.Sort.putRow_self enc W blk off d h] at e
  rw [e]
  exact Go.Sort.holds_putRow enc W blk off d _ h (by simp)
theorem RowP.set (h : RowP enc w0 wb c blk off cap d W) (hblk : w0.heap.size ≤ blk) (hne : c ≠ blk) (i : Nat) (hi : i < d.size) (x : α) : RowP enc w0 wb c blk off cap (d.setIfInBounds i x) (W.setCell ⟨blk, off + i, none⟩ (enc x)) :=
  ⟨holds_set h.hH i hi x, by simp; exact h.hb, h.old.setCell hblk _, by
    rw [World.cell?_setCell_other _ _ _ _ (by intro e; simp only [Addr.mk.injEq] at e; exact hne e.1.symm)]
    simp only [Array.size_setIfInBounds]
    exact h.cell, by rw [World.frozen?_setCell]; exact h.fr, h.kept.set _ (.inr rfl) _⟩
theorem below_sortWorld (hblk : w0.heap.size ≤ blk) (hb : blk < W.heap.size) (h : Below w0.heap.size w0 W) (n : Nat) (dk : Array α) (os : Array Obj) : Below w0.heap.size w0 (Go.Proofs.sortWorld enc W blk off n dk os) := by
  refine h.trans ⟨rfl, rfl, rfl, ?_, fun k hk => ?_⟩
  · unfold Go.Proofs.sortWorld
    rw [Go.Sort.size_grow, Go.Sort.size_putRow]
    exact Nat.le_add_right _ _
  · unfold Go.Proofs.sortWorld
    rw [Go.Sort.heap_grow_old _ _ (by rw [Go.Sort.size_putRow]; show k < W.heap.size; have := h.size; omega)]
    show ((W.heap.modify blk _))[k]? = _
    rw [Array.getElem?_modify, if_neg (by omega)]
theorem RowP.sorted (h : RowP enc w0 wb c blk off cap d W) (hblk : w0.heap.size ≤ blk) (hne : c ≠ blk) (n : Nat) (dk : Array α) (hs : dk.size = d.size) (os : Array Obj) : RowP enc w0 wb c blk off cap dk (Go.Proofs.sortWorld enc W blk off n dk os) := by
  have hc := World.block_lt_of_cell? _ _ h.cell
  have hsz : (Go.Sort.putRow enc (Go.Sort.ahead W n) blk off dk).heap.size = W.heap.size := by rw [Go.Sort.size_putRow]; rfl
  refine ⟨Go.Proofs.SW.holds ⟨n, os, rfl⟩ h.hb h.hH hs, ?_, below_sortWorld hblk h.hb h.old n dk os, ?_, ?_, ?_⟩
  · unfold Go.Proofs.sortWorld
    rw [Go.Sort.size_grow, hsz]
    have := h.hb
    omega
  · unfold Go.Proofs.sortWorld
    rw [Go.Sort.cell?_grow _ _ _ (by rw [hsz]; exact hc), Go.Sort.cell?_putRow_other _ _ _ _ _ _ (.inl hne), Go.Sort.cell?_ahead, hs]
    exact h.cell
  · unfold Go.Proofs.sortWorld
    rw [Go.Sort.frozen?_grow _ _ _ (by rw [hsz]; exact hc), Go.Sort.frozen?_putRow]
    exact h.fr
  · have hk := h.kept
    refine ⟨?_, fun k h1 h2 h3 => ?_⟩
    · unfold Go.Proofs.sortWorld
      rw [Go.Sort.size_grow, hsz]
      have := hk.size
      omega
    · unfold Go.Proofs.sortWorld
      rw [Go.Sort.heap_grow_old _ _ (by rw [hsz]; exact Nat.lt_of_lt_of_le h1 hk.size)]
      show ((W.heap.modify blk _))[k]? = _
      rw [Array.getElem?_modify, if_neg (fun e => h3 e.symm)]
      exact hk.block k h1 h2 h3
/-- The row cut to its first k. -/
theorem RowP.cut (h : RowP enc w0 wb c blk off cap d W) (hc : w0.heap.size ≤ c) (hne : c ≠ blk) (l : List α) (k : Nat) (hk : k ≤ d.size) (hl : d.toList.take k = l) : RowP enc w0 wb c blk off cap l.toArray (W.setCell ⟨c, 0, none⟩ (.slice (some ⟨blk, off, none⟩) k cap)) := by
  subst hl
  have hlen : (d.toList.take k).length = k := by rw [List.length_take]; simp; omega
  refine ⟨fun j hj => ?_, by simp; exact h.hb, h.old.setCell hc _, ?_, by rw [World.frozen?_setCell]; exact h.fr, h.kept.set _ (.inl rfl) _⟩
  · have hjk : j < k := by simpa [hlen] using hj
    have := h.hH j (by omega)
    refine ⟨(World.cell?_setCell_other _ _ _ _ (by intro e; simp only [Addr.mk.injEq] at e; exact hne e.1)).trans ?_, by rw [World.frozen?_setCell]; exact this.2⟩
    rw [this.1, getElem!_pos d j (by omega), getElem!_pos _ j (by simpa [hlen] using hjk)]
    simp
  · rw [World.cell?_setCell_same' _ _ _ (by rw [h.cell]; rfl)]
    simp [hlen]
/-- Of the row nothing turns where another set is worked at. -/
theorem RowP.far (h : RowP enc w0 wb c blk off cap d W) {c' blk' : Nat} (k : Kept W c' blk' W2) (hb : Below w0.heap.size w0 W2) (h1 : c ≠ c') (h2 : c ≠ blk') (h3 : blk ≠ c') (h4 : blk ≠ blk') : RowP enc w0 W2 c blk off cap d W2 := by
  have hc := k.block c (World.block_lt_of_cell? _ _ h.cell) h1 h2
  have hbk := k.block blk h.hb h3 h4
  exact ⟨fun j hj => ⟨(World.cell?_of_block (w := W) (a := ⟨blk, off + j, none⟩) hbk).trans (h.hH j hj).1, (World.frozen?_of_block (w := W) (a := ⟨blk, off + j, none⟩) hbk).trans (h.hH j hj).2⟩, Nat.lt_of_lt_of_le h.hb k.size, hb,
    (World.cell?_of_block (w := W) (a := ⟨c, 0, none⟩) hc).trans h.cell, (World.frozen?_of_block (w := W) (a := ⟨c, 0, none⟩) hc).trans h.fr, Kept.refl _ _ _⟩
/-- How far the pruning is: v + 1 kept, those from r on to come. -/
structure PruneAt (sub : α → α → Bool) (d : Array α) (v r : Nat) (dk : Array α) : Prop where
  size : dk.size = d.size
  to : dk.toList.take v ++ pruneFrom sub dk[v]! (d.toList.drop r) = prune sub d.toList
  rest : ∀ j, r ≤ j → j < d.size → dk[j]! = d[j]!
theorem PruneAt.start (sub : α → α → Bool) (d : Array α) (h : 0 < d.size) : PruneAt sub d 0 1 d := by
  refine ⟨rfl, ?_, fun _ _ _ => rfl⟩
  obtain ⟨l⟩ := d
  cases l with
  | nil => simp at h
  | cons x r => simp [prune]
theorem drop_at (d : Array α) {r : Nat} (h : r < d.size) : d.toList.drop r = d[r]! :: d.toList.drop (r + 1) := by
  rw [List.drop_eq_getElem_cons (by simpa using h), getElem!_pos d r h]
  simp
theorem PruneAt.skip {sub : α → α → Bool} {d dk : Array α} {v r : Nat} (h : PruneAt sub d v r dk) (hr : r < d.size) (hs : sub dk[v]! dk[r]! = true) : PruneAt sub d v (r + 1) dk := by
  refine ⟨h.size, ?_, fun j hj => h.rest j (by omega)⟩
  have e := h.to
  rw [drop_at d hr, pruneFrom, ← h.rest r (Nat.le_refl _) hr, if_pos hs] at e
  exact e
theorem PruneAt.keep {sub : α → α → Bool} {d dk : Array α} {v r : Nat} (h : PruneAt sub d v r dk) (hv : v < r) (hr : r < d.size) (hs : sub dk[v]! dk[r]! = false) : PruneAt sub d (v + 1) (r + 1) (dk.setIfInBounds (v + 1) dk[r]!) := by
  have hsz := h.size
  refine ⟨by simp [h.size], ?_, fun j hj hj2 => by rw [Go.Sort.getElem!_set_other _ _ _ _ (by omega)]; exact h.rest j (by omega) hj2⟩
  have e := h.to
  rw [drop_at d hr, pruneFrom, ← h.rest r (Nat.le_refl _) hr, if_neg (by rw [hs]; simp)] at e
  rw [Go.Sort.getElem!_set_same _ _ _ (by omega), ← e]
  have e2 : (dk.setIfInBounds (v + 1) dk[r]!).toList.take (v + 1) = dk.toList.take v ++ [dk[v]!] := by
    rw [Array.toList_setIfInBounds, List.take_set_of_le (Nat.le_refl _), List.take_succ_eq_append_getElem (by simp; omega), getElem!_pos dk v (by omega)]
    simp
  rw [e2, List.append_assoc]
  rfl
theorem PruneAt.done {sub : α → α → Bool} {d dk : Array α} {v r : Nat} (h : PruneAt sub d v r dk) (hv : v < d.size) (hr : d.size ≤ r) : dk.toList.take (v + 1) = prune sub d.toList := by
  have e := h.to
  have hsz := h.size
  rw [List.drop_of_length_le (by simpa using hr), pruneFrom] at e
  rw [← e, List.take_succ_eq_append_getElem (by simp; omega), getElem!_pos dk v (by omega)]
  simp
def SapPost (enc : α → Value) (cf : α → α → Int) (sub : α → α → Bool) (w0 wb : World) (c blk off cap : Nat) (d : Array α) (e : Ending) (w' : World) : Prop :=
  e = .returned (.tuple #[]) ∧ ∃ d' : Array α, Go.Sort.PermIn 0 d.size d d' ∧ Go.Sort.SortedIn (Go.Proofs.ltOf cf) 0 d.size d' ∧ RowP enc w0 wb c blk off cap (prune sub d'.toList).toArray w'
end
end Go.Proofs.YtdinnpjplgkffaaGreatDoor
