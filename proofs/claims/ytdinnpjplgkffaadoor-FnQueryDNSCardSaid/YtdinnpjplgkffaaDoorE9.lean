/-
  Walks: slices.ContainsFunc at the law's closure; the cell of a captured name.
-/
import Derived.Test.YtdinnpjplgkffaaDoorE8
namespace Go.Proofs.YtdinnpjplgkffaaDoor
open Go.ChangeShapes Go.WideShapes Go.ChangeAt Go.RowKit

/-- The cell of the name, and the call's first world. -/
def HeldN (w : World) (x : ByteArray) (W : World) : Prop := W.cell? ⟨w.heap.size, 0, none⟩ = some (.string x) ∧ Below w.heap.size w W
theorem HeldN.next {w W W2 : World} {x : ByteArray} (h : HeldN w x W) (k : Below W.heap.size W W2) : HeldN w x W2 :=
  ⟨(k.cell (p := ⟨w.heap.size, 0, none⟩) (World.block_lt_of_cell? _ _ h.1)).trans h.1, h.2.trans (k.mono h.2.size)⟩
theorem HeldN.held {w W : World} {x : ByteArray} (h : HeldN w x W) : W.cell? ⟨w.heap.size, 0, none⟩ = some (.string x) ∧ HeldN w x W := ⟨h.1, h⟩
theorem HeldN.start (w : World) (x : ByteArray) : HeldN w x (w.alloc (.cells #[.string x] 9)) := ⟨by rw [blk_cell (blk_new w _)]; rfl, Below.one _ _⟩

/-! ### slices.ContainsFunc -/
def IdxF (L : List ByteArray) (x : ByteArray) (w : World) (e : Ending) (w' : World) : Prop := ∃ r : Int, e = .returned (.int .i64 r) ∧ (0 ≤ r ↔ (2 : Int) ∈ L.map fun y => saysD y x) ∧ Below w.heap.size w w'
set_option maxHeartbeats 1000000 in
theorem open1_any (y x : ByteArray) (g : Nat) (hy : y.size ≤ 2147483647) (hx : x.size ≤ 2147483647) (b : Bool) (hb : (saysD y x == 2) = b) (w : World) (hcell : w.cell? ⟨g, 0, none⟩ = some (.string x)) :
    Calls Tryd.prog 22 #[.string y, .pointer (some ⟨g, 0, none⟩)] w (Ret (.bool b) w) := by
  have H := Lib.hid (fun W => specDNS_any y x hy hx W)
  change Hid (∀ W, Calls _ _ _ _ (Ret (.int .i64 (saysD y x)) W)) at H
  generalize saysD y x = z at H hb
  go_enter Tryd.func22, Tryd.ntmps22
  go_wp2_with ((with_reducible refine (H.out _).mono ?_); rintro e w1 ⟨rfl, hb1⟩)
  go_ret
  exact ⟨rfl, hb1⟩
set_option maxRecDepth 100000 in
set_option maxHeartbeats 1000000 in
theorem idxF_any (A : Option Addr) (n c : Nat) (L : List ByteArray) (x : ByteArray) (g : Nat) (w : World) (hn : n = L.length) (hf : fitsP L) (hx : x.size ≤ 2147483647) (hr : Rd w A (strs L)) (hcell : w.cell? ⟨g, 0, none⟩ = some (.string x)) :
    Calls Tryd.prog 40 #[.slice A n c, .func (.func 22) #[] #[.pointer (some ⟨g, 0, none⟩)]] w (IdxF L x w) := by
  subst hn
  have HR := Lib.hid hr
  have HF := Lib.hid hf.2
  have hle := hf.1
  have HC := Lib.hid hcell
  have HG : Hid (g < w.heap.size) := cell_lt hcell
  clear hr hf hcell
  go_enter Tryd.func40, Tryd.ntmps40
  go_wp2
  go_loopg [8] L.length (fun kx s8 wr => ∃ k : Nat, k ≤ L.length ∧ L.length - k ≤ kx ∧ s8 = .int .i64 k ∧ Aside (∀ y ∈ L.take k, saysD y x ≠ 2) ∧ Aside (Below w.heap.size w wr))
  case atStart => exact ⟨0, by omega, by omega, rfl, fun x hx => by simp at hx, Below.refl _ _⟩
  case round =>
    obtain ⟨k, hk, hg, rfl, Q, HW⟩ := hrel
    by_cases hlt : k < L.length
    · obtain ⟨ad1, rfl, h1l, hc1⟩ := (HR.out.below HW.out) k _ (strs_get hlt)
      have hD := fun (b : Bool) (hb : (saysD (L[k]'hlt) x == 2) = b) => open1_any (L[k]'hlt) x g (HF.out k hlt) hx b hb wr ((HW.out.cell (p := ⟨g, 0, none⟩) HG.out).trans HC.out)
      by_cases he : saysD L[k] x = 2
      · have HD := Lib.hid (hD true (by rw [he]; rfl))
        have F : Hid (∀ w', Below w.heap.size w w' → IdxF L x w (.returned (.int .i64 (k : Int))) w') := fun w' h => ⟨_, rfl, ⟨fun _ => List.mem_map.2 ⟨_, List.getElem_mem hlt, he⟩, fun _ => by omega⟩, h⟩
        generalize L[k] = y at hc1 HD
        clear Q he hD
        go_wp2_with ((with_reducible refine HD.out.mono ?_); rintro e w1 ⟨rfl, hb1⟩)
        have F2 := Lib.hid (F.out w1 (HW.out.trans (hb1.mono HW.out.size)))
        clear hb1
        go_wp2
        go_ret
        exact F2.out
      · have HD := Lib.hid (hD false (by rw [beq_eq_false_iff_ne]; exact he))
        have Q2 : Aside (∀ y ∈ L.take (k + 1), saysD y x ≠ 2) := fun y hy => by
          rw [List.take_succ_eq_append_getElem hlt] at hy
          rcases List.mem_append.1 hy with h | h
          · exact Q.out y h
          · simp at h; rw [h]; exact he
        generalize L[k] = y at hc1 HD
        clear Q he hD
        go_wp2_with ((with_reducible refine HD.out.mono ?_); rintro e w1 ⟨rfl, hb1⟩)
        have HW2 := Lib.hid (HW.out.trans (hb1.mono HW.out.size))
        clear hb1
        go_wp2
        go_roundg (L.length - (k + 1))
        case measure => omega
        case rel => exact ⟨k + 1, by omega, by omega, by go_num, Q2, HW2.out⟩
    · have F : Hid (IdxF L x w (.returned (.int .i64 (-1))) wr) := ⟨_, rfl, ⟨fun h => absurd h (by omega), fun h => by
        obtain ⟨y, hy, e⟩ := List.mem_map.1 h
        exact absurd e (Q.out y (by rw [List.take_of_length_le (by omega)]; exact hy))⟩, HW.out⟩
      clear Q
      go_wp2
      go_ret
      exact F.out
set_option maxHeartbeats 1000000 in
theorem containsF_any (A : Option Addr) (n c : Nat) (L : List ByteArray) (x : ByteArray) (g : Nat) (w : World) (hn : n = L.length) (hf : fitsP L) (hx : x.size ≤ 2147483647) (hr : Rd w A (strs L)) (hcell : w.cell? ⟨g, 0, none⟩ = some (.string x)) (b : Bool) (hb : b = true ↔ (2 : Int) ∈ L.map fun y => saysD y x) :
    Calls Tryd.prog 21 #[.slice A n c, .func (.func 22) #[] #[.pointer (some ⟨g, 0, none⟩)]] w (Ret (.bool b) w) := by
  have HC := Lib.hid (idxF_any A n c L x g w hn hf hx hr hcell)
  clear hn hr hf hcell
  go_enter Tryd.func21, Tryd.ntmps21
  go_wp2_with fail
  refine HC.out.mono ?_
  rintro e w1 ⟨r, rfl, hr, hw⟩
  have e1 : decide (0 ≤ r) = b := by rw [Bool.eq_iff_iff, hb, decide_eq_true_eq, hr]
  have HW := Lib.hid hw
  clear hb hr HC hw
  go_wp2
  go_ret
  exact ⟨rfl, HW.out⟩
end Go.Proofs.YtdinnpjplgkffaaDoor
