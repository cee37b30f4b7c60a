/-
  FnCompareIP holds: comparing networks is turned round where they are exchanged, and 0 for the same one. For every input; no condition.
-/
import Derived.Test.YtgaolfbbfdojjaaPNets
import Derived.Deep.DeepCutAuto
import Derived.Deep.RegionHeld3
namespace Go.Proofs.Ytgaolfbbfdojjaa
open Go.ChangeShapes Go.WideShapes Go.ChangeAt Go.RowKit
open Go.ChangeMaps (open_string shut_string)

theorem netCmp_neg (a b : List UInt8 × List UInt8) : netCmp a b = - netCmp b a := by
  unfold netCmp
  have h1 := compareBytes_neg a.1 b.1
  have h2 := compareBytes_neg a.2 b.2
  by_cases h : Lib.compareBytes a.1 b.1 = 0
  · have h' : Lib.compareBytes b.1 a.1 = 0 := by omega
    rw [if_pos h, if_pos h']; exact h2
  · have h' : ¬ Lib.compareBytes b.1 a.1 = 0 := by omega
    rw [if_neg h, if_neg h']; exact h1
theorem netCmp_self (a : List UInt8 × List UInt8) : netCmp a a = 0 := by
  unfold netCmp
  rw [if_pos (compareBytes_self _), compareBytes_self]
theorem netCmp_one : netCmp ([1, 0, 0, 0], [255, 0, 0, 0]) ([2, 0, 0, 0], [255, 0, 0, 0]) = -1 := by decide
def oneN (s : Nat) : NetA := ⟨some ⟨s, 0, none⟩, 4, some ⟨s + 1, 0, none⟩, 4, [1, 0, 0, 0], [255, 0, 0, 0]⟩
def twoN (s : Nat) : NetA := ⟨some ⟨s + 1 + 1, 0, none⟩, 4, some ⟨s + 1 + 1 + 1, 0, none⟩, 4, [2, 0, 0, 0], [255, 0, 0, 0]⟩
/-- The two networks of the text's own. -/
def Consts (w W : World) : Prop := NetR W (oneN w.heap.size) ∧ NetR W (twoN w.heap.size) ∧ Below w.heap.size w W ∧
  W.cell? ⟨w.heap.size + 1 + 1 + 1 + 1, 0, none⟩ = some (.slice (some ⟨w.heap.size, 0, none⟩) 4 4) ∧ W.cell? ⟨w.heap.size + 1 + 1 + 1 + 1, 1, none⟩ = some (.slice (some ⟨w.heap.size + 1, 0, none⟩) 4 4) ∧
  W.cell? ⟨w.heap.size + 1 + 1 + 1 + 1 + 1, 0, none⟩ = some (.slice (some ⟨w.heap.size + 1 + 1, 0, none⟩) 4 4) ∧ W.cell? ⟨w.heap.size + 1 + 1 + 1 + 1 + 1, 1, none⟩ = some (.slice (some ⟨w.heap.size + 1 + 1 + 1, 0, none⟩) 4 4)
theorem Rd.at_size {w : World} {s : Nat} {cs : Array Value} {T : TypeId} (h : w.heap.size = s) : Rd (w.alloc (.cells cs T)) (some ⟨s, 0, none⟩) cs.toList := by
  subst h; exact Rd.new w cs T
theorem Consts.start (w : World) : Consts w ((((((w.alloc (.cells #[.int .u8 1, .int .u8 0, .int .u8 0, .int .u8 0] 5)).alloc (.cells #[.int .u8 255, .int .u8 0, .int .u8 0, .int .u8 0] 5)).alloc (.cells #[.int .u8 2, .int .u8 0, .int .u8 0, .int .u8 0] 5)).alloc (.cells #[.int .u8 255, .int .u8 0, .int .u8 0, .int .u8 0] 5)).alloc (.cells #[.slice (some ⟨w.heap.size, 0, none⟩) 4 4, .slice (some ⟨w.heap.size + 1, 0, none⟩) 4 4] 24)).alloc (.cells #[.slice (some ⟨w.heap.size + 1 + 1, 0, none⟩) 4 4, .slice (some ⟨w.heap.size + 1 + 1 + 1, 0, none⟩) 4 4] 24)) := by
  have s1 : (w.alloc (.cells #[.int .u8 1, .int .u8 0, .int .u8 0, .int .u8 0] 5)).heap.size = w.heap.size + 1 := by simp
  have s2 : ((w.alloc (.cells #[.int .u8 1, .int .u8 0, .int .u8 0, .int .u8 0] 5)).alloc (.cells #[.int .u8 255, .int .u8 0, .int .u8 0, .int .u8 0] 5)).heap.size = w.heap.size + 1 + 1 := by simp
  have s3 : (((w.alloc (.cells #[.int .u8 1, .int .u8 0, .int .u8 0, .int .u8 0] 5)).alloc (.cells #[.int .u8 255, .int .u8 0, .int .u8 0, .int .u8 0] 5)).alloc (.cells #[.int .u8 2, .int .u8 0, .int .u8 0, .int .u8 0] 5)).heap.size = w.heap.size + 1 + 1 + 1 := by simp
  have r1 := ((((((Rd.at_size (cs := #[.int .u8 1, .int .u8 0, .int .u8 0, .int .u8 0]) (T := 5) (rfl : w.heap.size = w.heap.size)).below (Below.one _ (.cells #[.int .u8 255, .int .u8 0, .int .u8 0, .int .u8 0] 5))).below (Below.one _ (.cells #[.int .u8 2, .int .u8 0, .int .u8 0, .int .u8 0] 5))).below (Below.one _ (.cells #[.int .u8 255, .int .u8 0, .int .u8 0, .int .u8 0] 5))).below (Below.one _ (.cells #[.slice (some ⟨w.heap.size, 0, none⟩) 4 4, .slice (some ⟨w.heap.size + 1, 0, none⟩) 4 4] 24))).below (Below.one _ (.cells #[.slice (some ⟨w.heap.size + 1 + 1, 0, none⟩) 4 4, .slice (some ⟨w.heap.size + 1 + 1 + 1, 0, none⟩) 4 4] 24)))
  have r2 := (((((Rd.at_size (cs := #[.int .u8 255, .int .u8 0, .int .u8 0, .int .u8 0]) (T := 5) s1).below (Below.one _ (.cells #[.int .u8 2, .int .u8 0, .int .u8 0, .int .u8 0] 5))).below (Below.one _ (.cells #[.int .u8 255, .int .u8 0, .int .u8 0, .int .u8 0] 5))).below (Below.one _ (.cells #[.slice (some ⟨w.heap.size, 0, none⟩) 4 4, .slice (some ⟨w.heap.size + 1, 0, none⟩) 4 4] 24))).below (Below.one _ (.cells #[.slice (some ⟨w.heap.size + 1 + 1, 0, none⟩) 4 4, .slice (some ⟨w.heap.size + 1 + 1 + 1, 0, none⟩) 4 4] 24)))
  have r3 := ((((Rd.at_size (cs := #[.int .u8 2, .int .u8 0, .int .u8 0, .int .u8 0]) (T := 5) s2).below (Below.one _ (.cells #[.int .u8 255, .int .u8 0, .int .u8 0, .int .u8 0] 5))).below (Below.one _ (.cells #[.slice (some ⟨w.heap.size, 0, none⟩) 4 4, .slice (some ⟨w.heap.size + 1, 0, none⟩) 4 4] 24))).below (Below.one _ (.cells #[.slice (some ⟨w.heap.size + 1 + 1, 0, none⟩) 4 4, .slice (some ⟨w.heap.size + 1 + 1 + 1, 0, none⟩) 4 4] 24)))
  have r4 := (((Rd.at_size (cs := #[.int .u8 255, .int .u8 0, .int .u8 0, .int .u8 0]) (T := 5) s3).below (Below.one _ (.cells #[.slice (some ⟨w.heap.size, 0, none⟩) 4 4, .slice (some ⟨w.heap.size + 1, 0, none⟩) 4 4] 24))).below (Below.one _ (.cells #[.slice (some ⟨w.heap.size + 1 + 1, 0, none⟩) 4 4, .slice (some ⟨w.heap.size + 1 + 1 + 1, 0, none⟩) 4 4] 24)))
  have hm : (4 : Nat) ≤ maxLen := by unfold maxLen; omega
  refine ⟨⟨r1, r2, Nat.le_refl _, hm, Nat.le_refl _, hm, fun e => (by cases e), fun e => (by cases e)⟩, ⟨r3, r4, Nat.le_refl _, hm, Nat.le_refl _, hm, fun e => (by cases e), fun e => (by cases e)⟩, ?_, ?_, ?_, ?_, ?_⟩
  · exact (((((Below.one w _).alloc (by simp) _).alloc (by simp; omega) _).alloc (by simp; omega) _).alloc (by simp; omega) _).alloc (by simp; omega) _
  all_goals
    have s4 : ((((w.alloc (.cells #[.int .u8 1, .int .u8 0, .int .u8 0, .int .u8 0] 5)).alloc (.cells #[.int .u8 255, .int .u8 0, .int .u8 0, .int .u8 0] 5)).alloc (.cells #[.int .u8 2, .int .u8 0, .int .u8 0, .int .u8 0] 5)).alloc (.cells #[.int .u8 255, .int .u8 0, .int .u8 0, .int .u8 0] 5)).heap.size = w.heap.size + 1 + 1 + 1 + 1 := by simp
    have s5 : (((((w.alloc (.cells #[.int .u8 1, .int .u8 0, .int .u8 0, .int .u8 0] 5)).alloc (.cells #[.int .u8 255, .int .u8 0, .int .u8 0, .int .u8 0] 5)).alloc (.cells #[.int .u8 2, .int .u8 0, .int .u8 0, .int .u8 0] 5)).alloc (.cells #[.int .u8 255, .int .u8 0, .int .u8 0, .int .u8 0] 5)).alloc (.cells #[.slice (some ⟨w.heap.size, 0, none⟩) 4 4, .slice (some ⟨w.heap.size + 1, 0, none⟩) 4 4] 24)).heap.size = w.heap.size + 1 + 1 + 1 + 1 + 1 := by simp
    have b5 := blk_new (((((w.alloc (.cells #[.int .u8 1, .int .u8 0, .int .u8 0, .int .u8 0] 5)).alloc (.cells #[.int .u8 255, .int .u8 0, .int .u8 0, .int .u8 0] 5)).alloc (.cells #[.int .u8 2, .int .u8 0, .int .u8 0, .int .u8 0] 5)).alloc (.cells #[.int .u8 255, .int .u8 0, .int .u8 0, .int .u8 0] 5)).alloc (.cells #[.slice (some ⟨w.heap.size, 0, none⟩) 4 4, .slice (some ⟨w.heap.size + 1, 0, none⟩) 4 4] 24)) (.cells #[.slice (some ⟨w.heap.size + 1 + 1, 0, none⟩) 4 4, .slice (some ⟨w.heap.size + 1 + 1 + 1, 0, none⟩) 4 4] 24)
    have b4 := ((Below.one (((((w.alloc (.cells #[.int .u8 1, .int .u8 0, .int .u8 0, .int .u8 0] 5)).alloc (.cells #[.int .u8 255, .int .u8 0, .int .u8 0, .int .u8 0] 5)).alloc (.cells #[.int .u8 2, .int .u8 0, .int .u8 0, .int .u8 0] 5)).alloc (.cells #[.int .u8 255, .int .u8 0, .int .u8 0, .int .u8 0] 5)).alloc (.cells #[.slice (some ⟨w.heap.size, 0, none⟩) 4 4, .slice (some ⟨w.heap.size + 1, 0, none⟩) 4 4] 24)) (.cells #[.slice (some ⟨w.heap.size + 1 + 1, 0, none⟩) 4 4, .slice (some ⟨w.heap.size + 1 + 1 + 1, 0, none⟩) 4 4] 24)).block (w.heap.size + 1 + 1 + 1 + 1) (by simp)).trans (s4 ▸ blk_new ((((w.alloc (.cells #[.int .u8 1, .int .u8 0, .int .u8 0, .int .u8 0] 5)).alloc (.cells #[.int .u8 255, .int .u8 0, .int .u8 0, .int .u8 0] 5)).alloc (.cells #[.int .u8 2, .int .u8 0, .int .u8 0, .int .u8 0] 5)).alloc (.cells #[.int .u8 255, .int .u8 0, .int .u8 0, .int .u8 0] 5)) (.cells #[.slice (some ⟨w.heap.size, 0, none⟩) 4 4, .slice (some ⟨w.heap.size + 1, 0, none⟩) 4 4] 24))
    rw [s5] at b5
    first
      | (rw [blk_cell b4]; rfl)
      | (rw [blk_cell b5]; rfl)
theorem Consts.next {w W W2 : World} (h : Consts w W) (k : Below W.heap.size W W2) : Consts w W2 := by
  obtain ⟨h1, h2, h3, h4, h5, h6, h7⟩ := h
  exact ⟨h1.below k, h2.below k, h3.trans (k.mono h3.size), (k.cell (cell_lt h4)).trans h4, (k.cell (cell_lt h5)).trans h5, (k.cell (cell_lt h6)).trans h6, (k.cell (cell_lt h7)).trans h7⟩
def BothR (w : World) (N K : NetA) (w4 W : World) : Prop := TwoR w N K W ∧ Consts w4 W
theorem BothR.next {w w4 W W2 : World} {N K : NetA} (h : BothR w N K w4 W) (k : Below W.heap.size W W2) : BothR w N K w4 W2 := ⟨h.1.next k, h.2.next k⟩
theorem BothR.held {w w4 W : World} {N K : NetA} (h : BothR w N K w4 W) : W.cell? ⟨w.heap.size, 0, none⟩ = some (.slice N.A N.ad.length N.c) ∧ W.cell? ⟨w.heap.size, 1, none⟩ = some (.slice N.M N.ms.length N.d) ∧ W.cell? ⟨w.heap.size + 1, 0, none⟩ = some (.slice K.A K.ad.length K.c) ∧ W.cell? ⟨w.heap.size + 1, 1, none⟩ = some (.slice K.M K.ms.length K.d) ∧ BothR w N K w4 W :=
  ⟨h.1.cells.1.1, h.1.cells.1.2, h.1.cells.2.1, h.1.cells.2.2, h⟩
set_option maxHeartbeats 4000000 in
theorem fnCompareIP_walk {w : World} (N0 : NetA) (w0 : NetR w N0) (N1 : NetA) (w1 : NetR w N1) :
    Calls Try.prog 3 #[netV N0, netV N1] w (Ret (.bool true) w) := by
  have m0 : N0.ad.length ≤ 9223372036854775807 ∧ N0.ms.length ≤ 9223372036854775807 := by
    have := w0.2.2; unfold maxLen at this; omega
  have m1 : N1.ad.length ≤ 9223372036854775807 ∧ N1.ms.length ≤ 9223372036854775807 := by
    have := w1.2.2; unfold maxLen at this; omega
  have ht0 := Lib.hid (TwoR.start w0 w1)
  have HF0 : ∀ b W, (b = true ↔ (N0.ad.length ≤ 2147483647 ∧ N0.ms.length ≤ 2147483647)) → Calls Try.prog 8 #[netV N0] W (Ret (.bool b) W) := fun b W hb => fits2_any N0 m0.1 m0.2 W b hb
  have HF1 : ∀ b W, (b = true ↔ (N1.ad.length ≤ 2147483647 ∧ N1.ms.length ≤ 2147483647)) → Calls Try.prog 8 #[netV N1] W (Ret (.bool b) W) := fun b W hb => fits2_any N1 m1.1 m1.2 W b hb
  by_cases g0 : N0.ad.length ≤ 2147483647 ∧ N0.ms.length ≤ 2147483647
  rotate_left
  · have H0 := Lib.hid (fun W => HF0 false W ⟨fun e => (by cases e), fun e => absurd e g0⟩)
    clear HF0 HF1 g0 m0 m1 w0 w1
    unfold netV at *
    go_enter Try.func3, Try.ntmps3
    go_wp2_with ((with_reducible refine (H0.out _).mono ?_); rintro e w1 ⟨rfl, hb1⟩)
    go_ret
    exact ⟨rfl, (ht0.out.next hb1).2.2.1⟩
  have H0 := Lib.hid (fun W => HF0 true W ⟨fun _ => g0, fun _ => rfl⟩)
  by_cases g1 : N1.ad.length ≤ 2147483647 ∧ N1.ms.length ≤ 2147483647
  rotate_left
  · have H1 := Lib.hid (fun W => HF1 false W ⟨fun e => (by cases e), fun e => absurd e g1⟩)
    clear HF0 HF1 g0 g1 m0 m1 w0 w1
    unfold netV at *
    go_enter Try.func3, Try.ntmps3
    go_wp2_with fail
    refine (H0.out _).mono ?_
    rintro e w1 ⟨rfl, hb1⟩
    have ht1 := Lib.hid (ht0.out.next hb1)
    obtain ⟨⟨k0, k1⟩, k2, k3⟩ := ht1.out.cells
    clear hb1
    go_wp2_with ((with_reducible refine (H1.out _).mono ?_); rintro e w2 ⟨rfl, hb2⟩)
    go_ret
    exact ⟨rfl, (ht1.out.next hb2).2.2.1⟩
  have H1 := Lib.hid (fun W => HF1 true W ⟨fun _ => g1, fun _ => rfl⟩)
  have HN0 : ∀ b W, NetR W N0 → (b = true ↔ NetGood N0.ad N0.ms) → Calls Try.prog 9 #[netV N0] W (Ret (.bool b) W) := fun b W h hb => netOk_any N0 W h g0.1 g0.2 b hb
  have HN1 : ∀ b W, NetR W N1 → (b = true ↔ NetGood N1.ad N1.ms) → Calls Try.prog 9 #[netV N1] W (Ret (.bool b) W) := fun b W h hb => netOk_any N1 W h g1.1 g1.2 b hb
  by_cases p0 : NetGood N0.ad N0.ms
  rotate_left
  · have H2 := Lib.hid (fun W h => HN0 false W h ⟨fun e => (by cases e), fun e => absurd e p0⟩)
    clear HF0 HF1 HN0 HN1 g0 g1 m0 m1 w0 w1 p0
    unfold netV at *
    go_enter Try.func3, Try.ntmps3
    go_wp2_with fail
    refine (H0.out _).mono ?_
    rintro e w1 ⟨rfl, hb1⟩
    have ht1 := Lib.hid (ht0.out.next hb1)
    obtain ⟨⟨k0, k1⟩, k2, k3⟩ := ht1.out.cells
    clear hb1
    go_wp2_with fail
    refine (H1.out _).mono ?_
    rintro e w2 ⟨rfl, hb2⟩
    have ht2 := Lib.hid (ht1.out.next hb2)
    clear hb2 k0 k1 k2 k3
    obtain ⟨⟨k0, k1⟩, k2, k3⟩ := ht2.out.cells
    go_wp2_with fail
    refine (H2.out _ ht2.out.1).mono ?_
    rintro e w3 ⟨rfl, hb3⟩
    go_wp2
    go_ret
    exact ⟨rfl, (ht2.out.next hb3).2.2.1⟩
  have H2 := Lib.hid (fun W h => HN0 true W h ⟨fun _ => p0, fun _ => rfl⟩)
  by_cases p1 : NetGood N1.ad N1.ms
  rotate_left
  · have H3 := Lib.hid (fun W h => HN1 false W h ⟨fun e => (by cases e), fun e => absurd e p1⟩)
    clear HF0 HF1 HN0 HN1 g0 g1 m0 m1 w0 w1 p0 p1
    unfold netV at *
    go_enter Try.func3, Try.ntmps3
    go_wp2_with fail
    refine (H0.out _).mono ?_
    rintro e w1 ⟨rfl, hb1⟩
    have ht1 := Lib.hid (ht0.out.next hb1)
    obtain ⟨⟨k0, k1⟩, k2, k3⟩ := ht1.out.cells
    clear hb1
    go_wp2_with fail
    refine (H1.out _).mono ?_
    rintro e w2 ⟨rfl, hb2⟩
    have ht2 := Lib.hid (ht1.out.next hb2)
    clear hb2 k0 k1 k2 k3
    obtain ⟨⟨k0, k1⟩, k2, k3⟩ := ht2.out.cells
    go_wp2_with fail
    refine (H2.out _ ht2.out.1).mono ?_
    rintro e w3 ⟨rfl, hb3⟩
    have ht3 := Lib.hid (ht2.out.next hb3)
    clear hb3 k0 k1 k2 k3
    obtain ⟨⟨k0, k1⟩, k2, k3⟩ := ht3.out.cells
    go_wp2_with fail
    refine (H3.out _ ht3.out.2.1).mono ?_
    rintro e w4 ⟨rfl, hb4⟩
    go_wp2
    go_ret
    exact ⟨rfl, (ht3.out.next hb4).2.2.1⟩
  have H3 := Lib.hid (fun W h => HN1 true W h ⟨fun _ => p1, fun _ => rfl⟩)
  clear HF0 HF1 HN0 HN1 m0 m1 w0 w1 p0 p1
  go_enter Try.func3, Try.ntmps3
  unfold netV at *
  go_wp2_with fail
  refine (H0.out _).mono ?_
  rintro e w1 ⟨rfl, hb1⟩
  have ht1 := Lib.hid (ht0.out.next hb1)
  obtain ⟨⟨k0, k1⟩, k2, k3⟩ := ht1.out.cells
  clear hb1
  go_wp2_with fail
  refine (H1.out _).mono ?_
  rintro e w2 ⟨rfl, hb2⟩
  have ht2 := Lib.hid (ht1.out.next hb2)
  clear hb2 k0 k1 k2 k3
  obtain ⟨⟨k0, k1⟩, k2, k3⟩ := ht2.out.cells
  go_wp2_with fail
  refine (H2.out _ ht2.out.1).mono ?_
  rintro e w3 ⟨rfl, hb3⟩
  have ht3 := Lib.hid (ht2.out.next hb3)
  clear hb3 k0 k1 k2 k3
  obtain ⟨⟨k0, k1⟩, k2, k3⟩ := ht3.out.cells
  go_wp2_with fail
  refine (H3.out _ ht3.out.2.1).mono ?_
  rintro e w4 ⟨rfl, hb4⟩
  have ht4 := Lib.hid (ht3.out.next hb4)
  clear hb4 k0 k1 k2 k3 ht0 ht1 ht2 ht3 H0 H1 H2 H3
  obtain ⟨⟨k0, k1⟩, k2, k3⟩ := ht4.out.cells
  have hs0 : BothR w N0 N1 w4 (((((((w4.alloc (.cells #[.int .u8 1, .int .u8 0, .int .u8 0, .int .u8 0] 5)).alloc (.cells #[.int .u8 255, .int .u8 0, .int .u8 0, .int .u8 0] 5)).alloc (.cells #[.int .u8 2, .int .u8 0, .int .u8 0, .int .u8 0] 5)).alloc (.cells #[.int .u8 255, .int .u8 0, .int .u8 0, .int .u8 0] 5)).alloc (.cells #[.slice (some ⟨w4.heap.size, 0, none⟩) 4 4, .slice (some ⟨w4.heap.size + 1, 0, none⟩) 4 4] 24)).alloc (.cells #[.slice (some ⟨w4.heap.size + 1 + 1, 0, none⟩) 4 4, .slice (some ⟨w4.heap.size + 1 + 1 + 1, 0, none⟩) 4 4] 24)).drew) := by
    have hc := Consts.start w4
    have hb := ht4.out.next (((((((Below.one w4 (.cells #[.int .u8 1, .int .u8 0, .int .u8 0, .int .u8 0] 5)).alloc (by simp) (.cells #[.int .u8 255, .int .u8 0, .int .u8 0, .int .u8 0] 5)).alloc (by simp; omega) (.cells #[.int .u8 2, .int .u8 0, .int .u8 0, .int .u8 0] 5)).alloc (by simp; omega) (.cells #[.int .u8 255, .int .u8 0, .int .u8 0, .int .u8 0] 5)).alloc (by simp; omega) (.cells #[.slice (some ⟨w4.heap.size, 0, none⟩) 4 4, .slice (some ⟨w4.heap.size + 1, 0, none⟩) 4 4] 24)).alloc (by simp; omega) (.cells #[.slice (some ⟨w4.heap.size + 1 + 1, 0, none⟩) 4 4, .slice (some ⟨w4.heap.size + 1 + 1 + 1, 0, none⟩) 4 4] 24)))
    exact BothR.next ⟨hb, hc⟩ ((Below.refl _ _).drew)
  obtain ⟨⟨g0a, g0b⟩, ⟨g1a, g1b⟩⟩ := And.intro g0 g1
  have HAB : Hid (∀ W, BothR w N0 N1 w4 W → Calls Try.prog 10 #[netV N0, netV N1] W (Ret (.int .i64 (netCmp (N0.ad, N0.ms) (N1.ad, N1.ms))) W)) := fun W h => implCompare_any N0 N1 W h.1.1 h.1.2.1 g0a g0b g1a g1b
  have HBA : Hid (∀ W, BothR w N0 N1 w4 W → Calls Try.prog 10 #[netV N1, netV N0] W (Ret (.int .i64 (netCmp (N1.ad, N1.ms) (N0.ad, N0.ms))) W)) := fun W h => implCompare_any N1 N0 W h.1.2.1 h.1.1 g1a g1b g0a g0b
  have HAA : Hid (∀ W, BothR w N0 N1 w4 W → Calls Try.prog 10 #[netV N0, netV N0] W (Ret (.int .i64 0) W)) := fun W h => by
    have := implCompare_any N0 N0 W h.1.1 h.1.1 g0a g0b g0a g0b
    rwa [netCmp_self] at this
  have HOT : Hid (∀ W, BothR w N0 N1 w4 W → Calls Try.prog 10 #[netV (oneN w4.heap.size), netV (twoN w4.heap.size)] W (Ret (.int .i64 (-1)) W)) := fun W h => by
    have := implCompare_any (oneN w4.heap.size) (twoN w4.heap.size) W h.2.1 h.2.2.1 (by show (4 : Nat) ≤ 2147483647; omega) (by show (4 : Nat) ≤ 2147483647; omega) (by show (4 : Nat) ≤ 2147483647; omega) (by show (4 : Nat) ≤ 2147483647; omega)
    rwa [show netCmp ((oneN w4.heap.size).ad, (oneN w4.heap.size).ms) ((twoN w4.heap.size).ad, (twoN w4.heap.size).ms) = -1 from netCmp_one] at this
  have hneg := netCmp_neg (N1.ad, N1.ms) (N0.ad, N0.ms)
  generalize netCmp (N0.ad, N0.ms) (N1.ad, N1.ms) = x at *
  generalize netCmp (N1.ad, N1.ms) (N0.ad, N0.ms) = y at *
  unfold oneN twoN netV at *
  simp only [List.length_cons, List.length_nil, Nat.zero_add, Nat.reduceAdd] at HOT
  clear k0 k1 k2 k3 ht4
  have hx : ((x < 0 ∧ 0 < y) ∧ decide (0 < x) = false ∧ decide (y < 0) = false) ∨ (x = 0 ∧ y = 0) ∨ ((0 < x ∧ y < 0) ∧ decide (x < 0) = false ∧ decide (0 < y) = false) := by
    simp only [decide_eq_false_iff_not]
    omega
  have HX := Lib.hid hx
  clear hneg hx
  go_upto_region 6 with fail
  generalize hW5 : ((((((w4.alloc (.cells #[.int .u8 1, .int .u8 0, .int .u8 0, .int .u8 0] 5)).alloc (.cells #[.int .u8 255, .int .u8 0, .int .u8 0, .int .u8 0] 5)).alloc (.cells #[.int .u8 2, .int .u8 0, .int .u8 0, .int .u8 0] 5)).alloc (.cells #[.int .u8 255, .int .u8 0, .int .u8 0, .int .u8 0] 5)).alloc (.cells #[.slice (some ⟨w4.heap.size, 0, none⟩) 4 4, .slice (some ⟨w4.heap.size + 1, 0, none⟩) 4 4] 24)).alloc (.cells #[.slice (some ⟨w4.heap.size + 1 + 1, 0, none⟩) 4 4, .slice (some ⟨w4.heap.size + 1 + 1 + 1, 0, none⟩) 4 4] 24)) = W5 at hs0 ⊢
  clear hW5
  have hs1 := hs0.held
  go_cut [7, 8] (fun s7 s8 wx => s7 = .int .i64 x ∧ s8 = .int .i64 y ∧ Aside (BothR w N0 N1 w4 wx))
  case first =>
    go_region_held3 (fun W' => W'.cell? ⟨w.heap.size, 0, none⟩ = some (.slice N0.A N0.ad.length N0.c) ∧ W'.cell? ⟨w.heap.size, 1, none⟩ = some (.slice N0.M N0.ms.length N0.d) ∧ W'.cell? ⟨w.heap.size + 1, 0, none⟩ = some (.slice N1.A N1.ad.length N1.c) ∧ W'.cell? ⟨w.heap.size + 1, 1, none⟩ = some (.slice N1.M N1.ms.length N1.d) ∧ BothR w N0 N1 w4 W')
      (first | exact BothR.held (by assumption))
      (first | (go_split_ands; (with_reducible refine (HAB.out _ (by assumption)).mono ?_); rintro e wa ⟨rfl, hba⟩; have hsa := BothR.next (by assumption) hba) | (go_split_ands; (with_reducible refine (HBA.out _ (by assumption)).mono ?_); rintro e wb ⟨rfl, hbb⟩; have hsb := BothR.next (by assumption) hbb))
    all_goals
      go_wp2_with fail
      go_meet
      case rel => first | exact ⟨rfl, rfl, hsb⟩ | exact ⟨rfl, rfl, hsa⟩
  case rest =>
    clear hs1 hs0
    obtain ⟨rfl, rfl, HS⟩ := hcut
    obtain ⟨⟨⟨k0, k1⟩, k2, k3⟩, -, -, -, c0, c1, c2, c3⟩ := And.intro HS.out.1.cells HS.out.2
    rcases HX.out with ⟨⟨h1, h2⟩, h3, h4⟩ | ⟨rfl, rfl⟩ | ⟨⟨h1, h2⟩, h3, h4⟩
    all_goals
      go_wp2_with fail
      refine (HAA.out _ HS.out).mono ?_
      rintro e wc ⟨rfl, hbc⟩
      have HS2 := Lib.hid (HS.out.next hbc)
      clear k0 k1 k2 k3 c0 c1 c2 c3 hbc
      obtain ⟨⟨⟨k0, k1⟩, k2, k3⟩, -, -, -, c0, c1, c2, c3⟩ := And.intro HS2.out.1.cells HS2.out.2
      go_wp2_with fail
      refine (HOT.out _ HS2.out).mono ?_
      rintro e wd ⟨rfl, hbd⟩
      have HS3 := Lib.hid (HS2.out.next hbd)
      clear hbd
      go_wp2
      go_ret
      exact ⟨rfl, HS3.out.1.2.2.1⟩
set_option maxRecDepth 100000 in
set_option linter.unusedVariables false in
theorem fnCompareIP_lifted (os : Os) (started : os.Started) (H : Type) (enc : TypeId × Value → H) :
    ReturnsInHanded {} Try.checked os 3 .any (Rows.fnCompareIPSpec.pre6 enc Try.prog Try.f3 Rows.fnCompareIPRow.domain false) (Rows.fnCompareIPSpec.post enc Try.prog Try.f3 false true false false) := by
  refine returnsInHanded_of_change (C := Try.checked) own started (by kernel_rfl) Try.func3
    (ChangeSpec.witness6 (enc := enc) (C := Try.checked) false ⟨#[], #[.agg #[.slice none 0 0, .slice none 0 0], .agg #[.slice none 0 0, .slice none 0 0]], []⟩ 8 (by kernel_rfl) (by kernel_rfl) (by kernel_rfl) (by kernel_rfl)) ?_
  intro W base args ds gs before hval0 hW hcnd _
  have hval : ∀ (j : Nat) t v, Try.f3.params[j]? = some t → args[j]? = some v → Value.okWide Try.prog W .any base t v := hval0
  have hW' := hW
  obtain ⟨p, q, hA0, hV, rfl, hfz, hnd⟩ := hW
  have hA : DataW.TrodAll enc Try.prog W 0 (fun _ => true) true Try.f3.params.toList args.toList ds p := hA0
  rw [Try.params3] at hA hval
  obtain ⟨v0, vs0, d0, ds0, p0, q0, hargs, rfl, rfl, h0, r0⟩ := trodAll_cons hA
  obtain ⟨v1, vs1, d1, ds1, p1, q1, rfl, rfl, rfl, h1, r1⟩ := trodAll_cons r0
  obtain ⟨rfl, rfl, rfl⟩ := trodAll_nil r1
  obtain rfl : args = #[v0, v1] := by cases args; simp_all
  obtain ⟨rfl, rfl⟩ := trodVars_none hV
  have k0 := h0
  have lt0 : ∀ x ∈ p0, x.block < W.heap.size := by obtain ⟨m, hm⟩ := k0; exact DataW.trod_lt m _ _ _ hm
  obtain ⟨N0, rfl, w0⟩ := opened_net (hval 0 24 v0 rfl rfl) h0
  have k1 := h1
  have lt1 : ∀ x ∈ p1, x.block < W.heap.size := by obtain ⟨m, hm⟩ := k1; exact DataW.trod_lt m _ _ _ hm
  obtain ⟨N1, rfl, w1⟩ := opened_net (hval 1 24 v1 rfl rfl) h1
  clear hA0 hval0
  refine (fnCompareIP_walk (w := W) N0 w0 N1 w1).mono fun e W' ⟨he, bel⟩ => ?_
  subst he
  exact ⟨_, rfl, _, _, _, [], _, [], hW', trodAll_mk1 (shut_bool Try.underlying4 _), (trodAll_cons_mk (Below.trod laidOut (by kernel_rfl) (of_decide_eq_true (by kernel_rfl)) k0 bel lt0) (trodAll_cons_mk (Below.trod laidOut (by kernel_rfl) (of_decide_eq_true (by kernel_rfl)) k1 bel lt1) trodAll_mk0)), rfl, bel.frame _, fun h => by cases h⟩
theorem fnCompareIP_facts : joinedFacts Try.prog 3 Try.f3 Rows.fnCompareIPSpec Rows.fnCompareIPRow = true :=
  facts_of rfl head_enter head_lifts head_make rfl rfl (by kernel_rfl) (by kernel_rfl) (by kernel_rfl) (by kernel_rfl) (by kernel_rfl)
theorem fnCompareIP_over : Rows.fnCompareIPRow.holds Try.pinned (OpenSpec.ofChange Rows.fnCompareIPSpec) :=
  OpenClaim.holds_of_wide 3 Try.f3 rfl rfl rfl rfl rfl rfl rfl ⟨rfl, rfl, rfl, rfl, rfl⟩ rfl rfl rfl rfl rfl (by kernel_rfl) Try.func3 fnCompareIP_facts
    (of_decide_eq_true (by kernel_rfl)) (by unfold Func.isWrapper; first | (rw [if_pos (by decide +kernel)]; kernel_rfl) | (rw [if_neg (by decide +kernel)]; exact ⟨rfl, rfl⟩))
    (fun os started H enc _ => fnCompareIP_lifted os started H enc)
theorem fnCompareIP_holds : Rows.FnCompareIPSaid := fnCompareIP_over
end Go.Proofs.Ytgaolfbbfdojjaa
