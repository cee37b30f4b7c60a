/-
  Walk: newDNSConstraints where no constraint is nothing.
-/
import Derived.Test.YtdinnpjplgkffaaGreatDoorE4
namespace Go.Proofs.YtdinnpjplgkffaaGreatDoor
open Go.ChangeShapes Go.WideShapes Go.ChangeAt Go.RowKit Go.Maps

/-- A value of the map: whatever it is. -/
def mapR : Value → Option (DataW Unit × List MemPlace) := fun _ => some (.lit (.bool true), [])
theorem map_keyed : Keyed Tryz.prog 9 := string_keyed Tryz.underlying9
theorem RowP.rebase {α : Type} [Inhabited α] {enc : α → Value} {w0 wb W : World} {c blk off cap : Nat} {d : Array α} (h : RowP enc w0 wb c blk off cap d W) : RowP enc w0 W c blk off cap d W := ⟨h.hH, h.hb, h.old, h.cell, h.fr, Kept.refl _ _ _⟩
theorem SetS.far {w0 W W2 : World} {c blk c' blk' : Nat} {L : List ByteArray} (h : SetS w0 c blk L W) (k : Kept W c' blk' W2) (hb : Below w0.heap.size w0 W2) (h1 : c ≠ c') (h2 : c ≠ blk') (h3 : blk ≠ c') (h4 : blk ≠ blk') : SetS w0 c blk L W2 := by
  obtain ⟨i, off, cap, d, wb, p1, p2, p3, p4⟩ := h
  exact ⟨i, off, cap, d, _, p1, p2, p3.far k hb h1 h2 h3 h4, p4⟩
/-- A set, and the block behind it that names it. -/
structure Held (w : World) (L : List ByteArray) (c g b : Nat) (pm : Bool) (W : World) : Prop where
  set : SetS w c g L W
  old : Below w.heap.size w W
  hb : w.heap.size ≤ b
  c0 : W.cell? ⟨b, 0, none⟩ = some (.bool false)
  c1 : W.cell? ⟨b, 1, none⟩ = some (.bool pm)
  c2 : W.cell? ⟨b, 2, none⟩ = some (.pointer (some ⟨c, 0, none⟩))
  c3 : ∃ v, W.cell? ⟨b, 3, none⟩ = some v
  f3 : W.frozen? ⟨b, 3, none⟩ = false
  n1 : c ≠ b
  n2 : g ≠ b
theorem Held.next {w W W2 : World} {L : List ByteArray} {c g b : Nat} {pm : Bool} (h : Held w L c g b pm W) (k : Below W.heap.size W W2) : Held w L c g b pm W2 := by
  have hlt : b < W.heap.size := World.block_lt_of_cell? _ _ h.c0
  have keep : ∀ j v, W.cell? ⟨b, j, none⟩ = some v → W2.cell? ⟨b, j, none⟩ = some v := fun j v e => (k.cell (p := ⟨b, j, none⟩) hlt).trans e
  exact ⟨h.set.next k, h.old.trans (k.mono h.old.size), h.hb, keep _ _ h.c0, keep _ _ h.c1, keep _ _ h.c2, h.c3.imp fun v e => keep _ _ e, (k.frozen (p := ⟨b, 3, none⟩) hlt).trans h.f3, h.n1, h.n2⟩
theorem Held.set3 {w W : World} {L : List ByteArray} {c g b : Nat} {pm : Bool} (h : Held w L c g b pm W) (v : Value) : Held w L c g b pm (W.setCell ⟨b, 3, none⟩ v) := by
  have keep : ∀ j u, j ≠ 3 → W.cell? ⟨b, j, none⟩ = some u → (W.setCell ⟨b, 3, none⟩ v).cell? ⟨b, j, none⟩ = some u := fun j u hj e => (World.cell?_setCell_other _ _ _ _ (by intro e2; simp only [Addr.mk.injEq] at e2; omega)).trans e
  have ho : Below w.heap.size w (W.setCell ⟨b, 3, none⟩ v) := h.old.setCell h.hb _
  refine ⟨h.set.far ((Kept.refl W b b).set _ (.inl rfl) v) ho h.n1 h.n1 h.n2 h.n2, ho, h.hb, keep _ _ (by omega) h.c0, keep _ _ (by omega) h.c1, keep _ _ (by omega) h.c2, ⟨v, ?_⟩, by rw [World.frozen?_setCell]; exact h.f3, h.n1, h.n2⟩
  obtain ⟨u, hu⟩ := h.c3
  rw [World.cell?_setCell_same' _ _ _ (by rw [hu]; rfl)]
theorem Held.done {w W : World} {L : List ByteArray} {c g b : Nat} {pm : Bool} (h : Held w L c g b pm W) : DnsPost L w (.returned (.iface 108 (.pointer (some ⟨b, 0, none⟩)))) W :=
  ⟨b, rfl, .inr ⟨c, g, pm, h.c0, h.c1, h.c2, h.set⟩, h.old⟩
/-- The worlds of a set laid, and of the block that names it. -/
theorem held_start {w w1 : World} {v : Value} {L : List ByteArray} (pm : Bool) (T T2 : TypeId) (hown : OwnT w1 w.heap.size v L) (hne : L ≠ []) (hL : ∀ p ∈ L, IsS p) (hl : L.length ≤ 2147483647) (hold : Below w.heap.size w w1) :
    ∃ g cap, v = .slice (some ⟨g, 0, none⟩) L.length cap ∧ ∃ W2, W2 = (w1.alloc (.cells #[v] T)).alloc (.cells #[.bool false, .bool pm, .pointer (some ⟨w1.heap.size, 0, none⟩), .map none] T2) ∧ W2.cell? ⟨w1.heap.size + 1, 2, none⟩ = some (.pointer (some ⟨w1.heap.size, 0, none⟩)) ∧
      Calls Tryz.prog 56 #[.pointer (some ⟨w1.heap.size, 0, none⟩), .func (.func 57) #[] #[], .func (.func 58) #[] #[]] W2 fun e w' => e = .returned (.tuple #[]) ∧ Held w L w1.heap.size g (w1.heap.size + 1) pm w' := by
  obtain ⟨g, cap, d, i0, hF⟩ := setS_start T hown hne hL hold
  refine ⟨g, cap, hF.hv, _, rfl, ?_⟩
  have hv := hF.hv
  subst hv
  obtain ⟨q1, q2, q3⟩ := two_cells w1 #[.slice (some ⟨g, 0, none⟩) L.length cap] T T2 (.bool false)
  have e1 : (w1.alloc (.cells #[.slice (some ⟨g, 0, none⟩) L.length cap] T)).heap.size = w1.heap.size + 1 := by simp
  have hW := Below.one (w1.alloc (.cells #[.slice (some ⟨g, 0, none⟩) L.length cap] T)) (.cells #[.bool false, .bool pm, .pointer (some ⟨w1.heap.size, 0, none⟩), .map none] T2)
  have hbk := blk_new (w1.alloc (.cells #[.slice (some ⟨g, 0, none⟩) L.length cap] T)) (.cells #[.bool false, .bool pm, .pointer (some ⟨w1.heap.size, 0, none⟩), .map none] T2)
  rw [e1] at hbk
  have row2 := (hF.row.next hW).rebase
  have hds : d.size = L.length := by rw [← hF.hd, List.length_map, Array.length_toList]
  have hgl : g < w1.heap.size := by
    have h1 := hF.row.hb
    have h2 := hF.hne
    simp only [World.size_alloc] at h1
    omega
  refine ⟨by rw [blk_cell hbk]; rfl, ?_⟩
  have hF2 : FreshS w (.slice (some ⟨g, 0, none⟩) L.length cap) L _ w1.heap.size g cap d := ⟨rfl, hF.hd, hF.hcap, hF.hg, hF.hc, hF.hne, row2⟩
  refine (sapS_any _ _ _ _ _ d _ row2 hF.hg hF.hc hF.hne (by omega) hF.hcap).mono fun e w' h => ?_
  obtain ⟨he, hp⟩ := h
  have hset := setS_done hF2 hl hne hp
  obtain ⟨d', -, -, hrow⟩ := hp
  have hk := hrow.kept.block (w1.heap.size + 1) (by simp) (by omega) (by omega)
  refine ⟨he, ⟨hset, hrow.old, Nat.le_trans hF.hc (by omega), ?_, ?_, ?_, ⟨.map none, ?_⟩, ?_, by omega, by omega⟩⟩
  · exact (World.cell?_of_block (a := ⟨w1.heap.size + 1, 0, none⟩) hk).trans (by rw [blk_cell hbk]; rfl)
  · exact (World.cell?_of_block (a := ⟨w1.heap.size + 1, 1, none⟩) hk).trans (by rw [blk_cell hbk]; rfl)
  · exact (World.cell?_of_block (a := ⟨w1.heap.size + 1, 2, none⟩) hk).trans (by rw [blk_cell hbk]; rfl)
  · exact (World.cell?_of_block (a := ⟨w1.heap.size + 1, 3, none⟩) hk).trans (by rw [blk_cell hbk]; rfl)
  · exact (World.frozen?_of_block (a := ⟨w1.heap.size + 1, 3, none⟩) hk).trans (by unfold World.frozen?; rw [hbk]; rfl)
set_option maxRecDepth 100000 in
set_option maxHeartbeats 4000000 in
theorem newDNS_perm (A : Option Addr) (n c : Nat) (L : List ByteArray) (w : World) (hn : n = L.length) (hl : L.length ≤ 2147483647) (hr : Rd w A (strs L)) (hne : L ≠ []) (hs : ∀ y ∈ L, IsS y) :
    Calls Tryz.prog 41 #[.slice A n c, .bool true] w (DnsPost L w) := by
  subst hn
  have hp := List.length_pos_iff.2 hne
  obtain ⟨ad, rfl, -⟩ := hr 0 _ (strs_get hp)
  have HR := Lib.hid hr
  have HZ := Lib.hid hs
  have HNe := Lib.hid hne
  have HC := Lib.hid (clone_any ad _ c L w rfl hl hr)
  have h0 : ((L.length : Int) == 0) = false := by rw [beq_eq_false_iff_ne]; omega
  clear hr hs hp hne
  go_enter Tryz.func41, Tryz.ntmps41
  go_wp2
  go_loopg [18] L.length (fun kx s18 wr => w = wr ∧ ∃ k : Nat, k ≤ L.length ∧ L.length - k ≤ kx ∧ s18 = .int .i64 k)
  case atStart => exact ⟨rfl, 0, by omega, by omega, rfl⟩
  case round =>
    obtain ⟨rfl, k, hk, hg, rfl⟩ := hrel
    by_cases hlt : k < L.length
    · obtain ⟨ad1, he, h1l, hc1⟩ := HR.out k _ (strs_get hlt)
      obtain rfl := Option.some.inj he
      have hx := HZ.out _ (List.getElem_mem hlt)
      have e1 : (((L[k]).size : Int) == 0) = false := by rw [size_eq0, decide_eq_false (by have := hx.1; omega)]
      have hx2 := hx.2
      clear he hx
      generalize L[k] = y at hc1 e1 hx2
      go_wp2
      go_roundg (L.length - (k + 1))
      case measure => omega
      case rel => exact ⟨rfl, k + 1, by omega, by omega, by go_num⟩
    · clear HR
      go_wp2_with fail
      refine HC.out.mono ?_
      rintro e w1 ⟨v, rfl, hown, hb⟩
      obtain ⟨g, cap, rfl, W2, hW2, c2, hsap⟩ := held_start true 115 112 hown HNe.out HZ.out hl hb
      have HS := Lib.hid hsap
      have HW := Lib.hid hW2
      clear hown hb hsap HC hW2
      go_wp2_with (rw [← HW.out])
      refine HS.out.mono ?_
      rintro e w3 ⟨rfl, hH⟩
      have F := Lib.hid hH.done
      clear hH
      go_wp2
      go_ret
      exact F.out
end Go.Proofs.YtdinnpjplgkffaaGreatDoor
