/-
  Walk: newIPNetConstraints: two sets are made of a row of networks.
-/
import Derived.Test.YtgaolfbbfdojjaaN12
import Derived.Deep.DeepCutAuto
namespace Go.Proofs.Ytgaolfbbfdojjaa
open Go.ChangeShapes Go.WideShapes Go.ChangeAt Go.RowKit

def IsN (w : World) (p : Nat × NetA) : Prop := NetP w p.1 p.2 ∧ NetGood p.2.ad p.2.ms
theorem IsN.g {w : World} {p : Nat × NetA} (h : IsN w p) : NetG p.2 := h.2.toG (by have := h.2.1.len; omega)
def F4 (l : List (Nat × NetA)) : List (Nat × NetA) := l.filter fun p => p.2.ad.length == 4
def F6 (l : List (Nat × NetA)) : List (Nat × NetA) := l.filter fun p => !(p.2.ad.length == 4)
/-- The loop: k networks are parted among two rows. -/
structure LoopN (w : World) (ps : List (Nat × NetA)) (k : Nat) (v3 v4 : Value) (W : World) : Prop where
  own4 : OwnL W w.heap.size v3 (F4 (ps.take k))
  own6 : OwnL W w.heap.size v4 (F6 (ps.take k))
  apart : ∀ g, v3.ownBlock = some g → v4.ownBlock ≠ some g
  old : Below w.heap.size w W
theorem OwnL.below {w w' : World} {base : Nat} {v : Value} {l : List (Nat × NetA)} (h : OwnL w base v l) (b : Below w.heap.size w w') : OwnL w' base v l :=
  World.ownsRow.kept (row := none) h ⟨b.os, b.tape, b.output, b.size, fun k hk _ => b.block k hk⟩ (by
    cases e : v.ownBlock
    · exact .inl rfl
    · exact .inr (by simp))
theorem LoopN.below {w W W2 : World} {ps : List (Nat × NetA)} {k : Nat} {v3 v4 : Value} (h : LoopN w ps k v3 v4 W) (b : Below W.heap.size W W2) : LoopN w ps k v3 v4 W2 :=
  ⟨h.own4.below b, h.own6.below b, h.apart, h.old.trans (b.mono h.old.size)⟩
theorem LoopN.start (w : World) (ps : List (Nat × NetA)) : LoopN w ps 0 (.slice none 0 0) (.slice none 0 0) w :=
  ⟨World.ownsRow_nil _ _ _ _, World.ownsRow_nil _ _ _ _, fun g e => (by cases e), Below.refl _ _⟩
theorem other_kept {w w' : World} {base : Nat} {v u : Value} {l : List (Nat × NetA)} (h : OwnL w base v l) (hg : w.grownBy w' u.ownBlock) (hne : ∀ g, u.ownBlock = some g → v.ownBlock ≠ some g) : OwnL w' base v l :=
  World.ownsRow.kept h hg (by
    cases e : v.ownBlock with
    | none => exact .inl rfl
    | some g =>
      right
      intro e2
      exact hne g e2.symm e)
theorem LoopN.push4 {w W W2 : World} {ps : List (Nat × NetA)} {k : Nat} {v3 v4 v' : Value} (h : LoopN w ps k v3 v4 W) (hk : k < ps.length) (h4 : ps[k].2.ad.length = 4)
    (hown : OwnL W2 w.heap.size v' (F4 (ps.take k) ++ [ps[k]])) (hg : W.grownBy W2 v3.ownBlock) (hat : v'.ownBlock = v3.ownBlock ∨ ∃ g, v'.ownBlock = some g ∧ W.heap.size < g) : LoopN w ps (k + 1) v' v4 W2 := by
  have e := List.take_succ_eq_append_getElem hk
  refine ⟨?_, ?_, fun g e1 e2 => ?_, h.old.grown hg h.old.size fun g e => (World.ownsRow.lt h.own4 g e).1⟩
  · have e2 : F4 (ps.take (k + 1)) = F4 (ps.take k) ++ [ps[k]] := by rw [e]; unfold F4; rw [List.filter_append]; simp [h4]
    rw [e2]; exact hown
  · have e2 : F6 (ps.take (k + 1)) = F6 (ps.take k) := by rw [e]; unfold F6; rw [List.filter_append]; simp [h4]
    rw [e2]; exact other_kept h.own6 hg h.apart
  · rcases hat with e3 | ⟨g', e3, hlt⟩
    · exact h.apart g (by rw [← e3]; exact e1) e2
    · rw [e3] at e1
      obtain rfl := Option.some.inj e1
      have := (World.ownsRow.lt h.own6 _ e2).2
      omega
theorem LoopN.push6 {w W W2 : World} {ps : List (Nat × NetA)} {k : Nat} {v3 v4 v' : Value} (h : LoopN w ps k v3 v4 W) (hk : k < ps.length) (h4 : ps[k].2.ad.length ≠ 4)
    (hown : OwnL W2 w.heap.size v' (F6 (ps.take k) ++ [ps[k]])) (hg : W.grownBy W2 v4.ownBlock) (hat : v'.ownBlock = v4.ownBlock ∨ ∃ g, v'.ownBlock = some g ∧ W.heap.size < g) : LoopN w ps (k + 1) v3 v' W2 := by
  have e := List.take_succ_eq_append_getElem hk
  refine ⟨?_, ?_, fun g e1 e2 => ?_, h.old.grown hg h.old.size fun g e => (World.ownsRow.lt h.own6 g e).1⟩
  · have e2 : F4 (ps.take (k + 1)) = F4 (ps.take k) := by rw [e]; unfold F4; rw [List.filter_append]; simp [h4]
    rw [e2]; exact other_kept h.own4 hg fun g e1 e2 => h.apart g e2 e1
  · have e2 : F6 (ps.take (k + 1)) = F6 (ps.take k) ++ [ps[k]] := by rw [e]; unfold F6; rw [List.filter_append]; simp [h4]
    rw [e2]; exact hown
  · rcases hat with e3 | ⟨g', e3, hlt⟩
    · exact h.apart g e1 (by rw [← e3]; exact e2)
    · rw [e3] at e2
      obtain rfl := Option.some.inj e2
      have := (World.ownsRow.lt h.own4 _ e1).2
      omega

/-! ### A SET MADE -/
theorem pmap_el {w : World} {m : Nat} : ∀ (L : List (Nat × NetA)), (∀ p ∈ L, IsN w p ∧ p.2.ad.length = m ∧ m ≤ 16) → ∃ l : List (NetEl w m), l.map NetEl.pt = L
  | [], _ => ⟨[], rfl⟩
  | p :: r, h => by
    obtain ⟨l, e⟩ := pmap_el r fun q hq => h q (by simp [hq])
    have hp := h p (by simp)
    obtain ⟨x, hx⟩ : ∃ x : NetEl w m, x.pt = p := ⟨⟨p, hp.1.1, hp.1.2, hp.2⟩, rfl⟩
    exact ⟨x :: l, by rw [List.map_cons, hx, e]⟩
/-- A set that is about to be sorted. -/
structure Fresh (w : World) (m : Nat) (v : Value) (L : List (Nat × NetA)) (W : World) (c g cap : Nat) (d : Array (NetEl w m)) [Inhabited (NetEl w m)] : Prop where
  hv : v = .slice (some ⟨g, 0, none⟩) L.length cap
  hd : d.toList.map NetEl.pt = L
  hcap : d.size ≤ cap
  hg : w.heap.size ≤ g
  hc : w.heap.size ≤ c
  hne : c ≠ g
  row : RowP NetEl.enc w W c g 0 cap d W
theorem set_start {w W : World} {m : Nat} {v : Value} {L : List (Nat × NetA)} (T : TypeId) (hown : OwnL W w.heap.size v L) (hne : L ≠ []) (hL : ∀ p ∈ L, IsN w p ∧ p.2.ad.length = m ∧ m ≤ 16) (hold : Below w.heap.size w W) :
    ∃ (g cap : Nat) (d : Array (NetEl w m)) (_ : Inhabited (NetEl w m)), Fresh w m v L (W.alloc (.cells #[v] T)) W.heap.size g cap d ∧ v.ownBlock = some g := by
  obtain ⟨l, e⟩ := pmap_el L hL
  have hlen : l.length = L.length := by rw [← e, List.length_map]
  cases l with
  | nil => rw [← e] at hne; exact absurd rfl hne
  | cons x0 l0 =>
    obtain ⟨h1, h2⟩ := hown
    rcases h2 with ⟨-, h0⟩ | ⟨g, cap, cur, rfl, hbase, hh, hnc, hcm, hsz, htk⟩
    · exact absurd (List.length_eq_zero_iff.1 h0) hne
    · have hgl : g < W.heap.size := blk_lt hh
      have hone := Below.one W (.cells #[.slice (some ⟨g, 0, none⟩) L.length cap] T)
      let i0 : Inhabited (NetEl w m) := ⟨x0⟩
      refine ⟨g, cap, (x0 :: l0).toArray, i0, ⟨rfl, by simpa using e, by simpa [hlen] using hnc, hbase, hold.size, by omega, ?_⟩, rfl⟩
      refine ⟨fun j hj => ?_, by simp; omega, hold.trans (hone.mono hold.size), ?_, by simp, Kept.refl _ _ _⟩
      · have hj2 : j < (x0 :: l0).length := by simpa using hj
        rw [Nat.zero_add, hone.cell (p := ⟨g, j, none⟩) hgl, hone.frozen (p := ⟨g, j, none⟩) hgl, blk_cell hh]
        refine ⟨?_, by simp [World.frozen?, hh]⟩
        have hjL : j < L.length := by omega
        have e3 : (L.map encP)[j]? = some (encP L[j]) := by rw [List.getElem?_map, List.getElem?_eq_getElem hjL]; rfl
        rw [← htk, List.getElem?_take, if_pos (by omega)] at e3
        have e4 : L[j] = ((x0 :: l0)[j]).pt := by
          have : (x0 :: l0).map NetEl.pt = L := e
          have e5 := List.getElem_of_eq this.symm hjL
          rw [e5, List.getElem_map]
        rw [getElem!_pos _ j hj]
        simp only [Array.getElem?_toList] at e3
        rw [e3, e4]
        simp only [List.getElem_toArray]
        rfl
      · rw [blk_cell (blk_new W _)]
        simp [hlen]
theorem set_done {w W W2 : World} {m : Nat} {v : Value} {L : List (Nat × NetA)} {c g cap : Nat} {d : Array (NetEl w m)} {i : Inhabited (NetEl w m)} (h : Fresh w m v L W c g cap d) (hL : L.length ≤ 2147483647) (hne : L ≠ [])
    (hp : ∃ d' : Array (NetEl w m), Go.Sort.PermIn 0 d.size d d' ∧ Go.Sort.SortedIn (Go.Proofs.ltOf NetEl.cf) 0 d.size d' ∧ RowP NetEl.enc w W c g 0 cap (prune NetEl.sub d'.toList).toArray W2) : SetN w m c g L W2 ∧ Kept W c g W2 := by
  obtain ⟨d', h1, h2, h3⟩ := hp
  have hds : d.size = L.length := by rw [← h.hd, List.length_map, Array.length_toList]
  have hpe : d'.toList.Perm d.toList := by
    have hs := h1.1
    have := h1.2.2
    have e1 : (d'.extract 0 d.size).toList = d'.toList := by rw [← hs]; simp
    have e2 : (d.extract 0 d.size).toList = d.toList := by simp
    rw [e1, e2] at this
    exact this
  refine ⟨⟨i, 0, cap, d', W, ?_, by rw [h1.1]; exact h2, h3, h.hg, h.hne, by rw [h1.1]; omega, by rw [h1.1, hds]; exact List.length_pos_iff.2 hne⟩, h3.kept⟩
  rw [← h.hd]
  exact hpe.map _
theorem own_far {W W2 : World} {base c g : Nat} {v : Value} {l : List (Nat × NetA)} (h : OwnL W base v l) (k : Kept W c g W2) (hne : ∀ b, v.ownBlock = some b → b ≠ c ∧ b ≠ g) : OwnL W2 base v l := by
  obtain ⟨h1, h2⟩ := h
  refine ⟨h1, ?_⟩
  rcases h2 with h | ⟨b, cap, cur, rfl, h3, h4, h5⟩
  · exact .inl h
  · have := hne b rfl
    exact .inr ⟨b, cap, cur, rfl, h3, (k.block b (blk_lt h4) this.1 this.2).trans h4, h5⟩
theorem own_nil {W : World} {base : Nat} {v : Value} {l : List (Nat × NetA)} (h : OwnL W base v l) (e : l = []) : ∃ A cap, v = .slice A 0 cap := by
  subst e
  obtain ⟨A, cap, e, -⟩ := Rd.own h
  exact ⟨A, cap, e⟩
/-- What the slot of a set holds. -/
def PtrN (w : World) (m : Nat) (s : Value) (cs : Option (Nat × Nat)) (L : List (Nat × NetA)) (W : World) : Prop :=
  (L = [] ∧ s = .pointer none ∧ cs = none) ∨ ∃ c blk, cs = some (c, blk) ∧ s = .pointer (some ⟨c, 0, none⟩) ∧ SetN w m c blk L W ∧ c < W.heap.size ∧ blk < W.heap.size
theorem PtrN.next {w W W2 : World} {m : Nat} {s : Value} {cs : Option (Nat × Nat)} {L : List (Nat × NetA)} (h : PtrN w m s cs L W) (k : Below W.heap.size W W2) : PtrN w m s cs L W2 := by
  rcases h with h | ⟨c, blk, h1, h2, h3, h4, h5⟩
  · exact .inl h
  · exact .inr ⟨c, blk, h1, h2, h3.next k, Nat.lt_of_lt_of_le h4 k.size, Nat.lt_of_lt_of_le h5 k.size⟩
theorem PtrN.far {w W W2 : World} {m : Nat} {s : Value} {cs : Option (Nat × Nat)} {L : List (Nat × NetA)} {c' blk' : Nat} (h : PtrN w m s cs L W) (k : Kept W c' blk' W2) (hb : Below w.heap.size w W2) (hne : ∀ c blk, cs = some (c, blk) → c ≠ c' ∧ c ≠ blk' ∧ blk ≠ c' ∧ blk ≠ blk') : PtrN w m s cs L W2 := by
  rcases h with h | ⟨c, blk, h1, h2, h3, h4, h5⟩
  · exact .inl h
  · obtain ⟨a1, a2, a3, a4⟩ := hne c blk h1
    exact .inr ⟨c, blk, h1, h2, h3.far k hb a1 a2 a3 a4, Nat.lt_of_lt_of_le h4 k.size, Nat.lt_of_lt_of_le h5 k.size⟩
/-- Behind the first set. -/
structure One (w : World) (L4 L6 : List (Nat × NetA)) (v4 s8 : Value) (cs : Option (Nat × Nat)) (W : World) : Prop where
  set : PtrN w 4 s8 cs L4 W
  own : OwnL W w.heap.size v4 L6
  apart : ∀ c blk, cs = some (c, blk) → v4.ownBlock ≠ some c ∧ v4.ownBlock ≠ some blk
  old : Below w.heap.size w W
/-- Behind both. -/
structure Two (w : World) (L4 L6 : List (Nat × NetA)) (s8 s9 : Value) (W : World) : Prop where
  set4 : ∃ cs, PtrN w 4 s8 cs L4 W
  set6 : ∃ cs, PtrN w 16 s9 cs L6 W
  old : Below w.heap.size w W
theorem One.next {w W W2 : World} {L4 L6 : List (Nat × NetA)} {v4 s8 : Value} {cs : Option (Nat × Nat)} (h : One w L4 L6 v4 s8 cs W) (k : Below W.heap.size W W2) : One w L4 L6 v4 s8 cs W2 := ⟨h.set.next k, h.own.below k, h.apart, h.old.trans (k.mono h.old.size)⟩
theorem Two.next {w W W2 : World} {L4 L6 : List (Nat × NetA)} {s8 s9 : Value} (h : Two w L4 L6 s8 s9 W) (k : Below W.heap.size W W2) : Two w L4 L6 s8 s9 W2 :=
  ⟨h.set4.imp fun _ h => h.next k, h.set6.imp fun _ h => h.next k, h.old.trans (k.mono h.old.size)⟩
end Go.Proofs.Ytgaolfbbfdojjaa
