/-
  FnCheckMore holds: a name that is refused for an excluded constraint stays so with constraints more, and whatever is permitted. For every input; no condition of ours. And its tied card.
-/
import Derived.Test.YtdinnpjplgkffaaDoorE8
import Derived.Test.YtdinnpjplgkffaaDoorTie
import Derived.Test.YtdinnpjplgkffaaDoorCards
import Derived.LaidMore
import Derived.Lay
import Derived.SevenTiedAt
import Derived.Stop.Joined
namespace Go.Proofs.YtdinnpjplgkffaaDoor
open Go.ChangeShapes Go.WideShapes Go.ChangeAt Go.RowKit
open Go.ChangeMaps (open_string shut_string)

set_option maxRecDepth 100000 in
set_option maxHeartbeats 8000000 in
theorem fnCheckMore_walk {w : World} (A0 : Option Addr) (n0 c0 : Nat) (L0 : List ByteArray) (t0 : TextsR w A0 n0 c0 L0) (A1 : Option Addr) (n1 c1 : Nat) (L1 : List ByteArray) (t1 : TextsR w A1 n1 c1 L1) (A2 : Option Addr) (n2 c2 : Nat) (L2 : List ByteArray) (t2 : TextsR w A2 n2 c2 L2) (x : ByteArray) (hx0 : x.size ≤ maxLen) :
    Calls Tryd.prog 6 #[.slice A0 n0 c0, .slice A1 n1 c1, .slice A2 n2 c2, .string x] w (Ret (.bool true) w) := by
  have HB0 : Hid (Below w.heap.size w w) := Below.refl _ _
  obtain ⟨rfl, a0, b0, d0, f0, r0⟩ := t0
  have R0 := Lib.hid r0
  have M0 := Lib.hid d0
  have ml0 : L0.length ≤ maxLen := Nat.le_trans a0 b0
  have F0 := Lib.hid (fun b hb W (hW : Below w.heap.size w W) => fits_any A0 _ c0 L0 W b hb rfl ml0 f0 (r0.below hW))
  clear r0 d0 f0
  obtain ⟨rfl, a1, b1, d1, f1, r1⟩ := t1
  have R1 := Lib.hid r1
  have M1 := Lib.hid d1
  have ml1 : L1.length ≤ maxLen := Nat.le_trans a1 b1
  have F1 := Lib.hid (fun b hb W (hW : Below w.heap.size w W) => fits_any A1 _ c1 L1 W b hb rfl ml1 f1 (r1.below hW))
  clear r1 d1 f1
  obtain ⟨rfl, a2, b2, d2, f2, r2⟩ := t2
  have R2 := Lib.hid r2
  have M2 := Lib.hid d2
  have ml2 : L2.length ≤ maxLen := Nat.le_trans a2 b2
  have F2 := Lib.hid (fun b hb W (hW : Below w.heap.size w W) => fits_any A2 _ c2 L2 W b hb rfl ml2 f2 (r2.below hW))
  clear r2 d2 f2
  unfold maxLen at *
  by_cases gf0 : fitsP L0
  rotate_left
  · have HK : Hid (∀ W, Below w.heap.size w W → Calls Tryd.prog 15 #[.slice A0 L0.length c0] W (Ret (.bool false) W)) := fun W hW => F0.out false ⟨fun e => (by cases e), fun e => absurd e gf0⟩ W hW
    go_enter Tryd.func6, Tryd.ntmps6
    go_wp2_with ((with_reducible refine (HK.out _ HB0.out).mono ?_); rintro e wf ⟨rfl, hbf⟩)
    go_ret
    exact ⟨rfl, HB0.out.trans (hbf.mono HB0.out.size)⟩
  have G0 : Hid (∀ W, Below w.heap.size w W → Calls Tryd.prog 15 #[.slice A0 L0.length c0] W (Ret (.bool true) W)) := fun W hW => F0.out true ⟨fun _ => gf0, fun _ => rfl⟩ W hW
  have GF0 := Lib.hid gf0
  clear gf0 F0
  by_cases gf1 : fitsP L1
  rotate_left
  · have HK : Hid (∀ W, Below w.heap.size w W → Calls Tryd.prog 15 #[.slice A1 L1.length c1] W (Ret (.bool false) W)) := fun W hW => F1.out false ⟨fun e => (by cases e), fun e => absurd e gf1⟩ W hW
    go_enter Tryd.func6, Tryd.ntmps6
    go_wp2_with fail
    refine (G0.out _ HB0.out).mono ?_
    rintro e w1 ⟨rfl, hb1⟩
    have HB1 := Lib.hid (HB0.out.trans (hb1.mono HB0.out.size))
    clear hb1 HB0
    go_wp2_with ((with_reducible refine (HK.out _ HB1.out).mono ?_); rintro e wf ⟨rfl, hbf⟩)
    go_ret
    exact ⟨rfl, HB1.out.trans (hbf.mono HB1.out.size)⟩
  have G1 : Hid (∀ W, Below w.heap.size w W → Calls Tryd.prog 15 #[.slice A1 L1.length c1] W (Ret (.bool true) W)) := fun W hW => F1.out true ⟨fun _ => gf1, fun _ => rfl⟩ W hW
  have GF1 := Lib.hid gf1
  clear gf1 F1
  by_cases gf2 : fitsP L2
  rotate_left
  · have HK : Hid (∀ W, Below w.heap.size w W → Calls Tryd.prog 15 #[.slice A2 L2.length c2] W (Ret (.bool false) W)) := fun W hW => F2.out false ⟨fun e => (by cases e), fun e => absurd e gf2⟩ W hW
    go_enter Tryd.func6, Tryd.ntmps6
    go_wp2_with fail
    refine (G0.out _ HB0.out).mono ?_
    rintro e w1 ⟨rfl, hb1⟩
    have HB1 := Lib.hid (HB0.out.trans (hb1.mono HB0.out.size))
    clear hb1 HB0
    go_wp2_with fail
    refine (G1.out _ HB1.out).mono ?_
    rintro e w2 ⟨rfl, hb1⟩
    have HB2 := Lib.hid (HB1.out.trans (hb1.mono HB1.out.size))
    clear hb1 HB1
    go_wp2_with ((with_reducible refine (HK.out _ HB2.out).mono ?_); rintro e wf ⟨rfl, hbf⟩)
    go_ret
    exact ⟨rfl, HB2.out.trans (hbf.mono HB2.out.size)⟩
  have G2 : Hid (∀ W, Below w.heap.size w W → Calls Tryd.prog 15 #[.slice A2 L2.length c2] W (Ret (.bool true) W)) := fun W hW => F2.out true ⟨fun _ => gf2, fun _ => rfl⟩ W hW
  have GF2 := Lib.hid gf2
  clear gf2 F2
  by_cases g_x : 2147483647 < x.size
  · go_enter Tryd.func6, Tryd.ntmps6
    go_wp2_with fail
    refine (G0.out _ HB0.out).mono ?_
    rintro e w1 ⟨rfl, hb1⟩
    have HB1 := Lib.hid (HB0.out.trans (hb1.mono HB0.out.size))
    clear hb1 HB0
    go_wp2_with fail
    refine (G1.out _ HB1.out).mono ?_
    rintro e w2 ⟨rfl, hb1⟩
    have HB2 := Lib.hid (HB1.out.trans (hb1.mono HB1.out.size))
    clear hb1 HB1
    go_wp2_with fail
    refine (G2.out _ HB2.out).mono ?_
    rintro e w3 ⟨rfl, hb1⟩
    have HB3 := Lib.hid (HB2.out.trans (hb1.mono HB2.out.size))
    clear hb1 HB2
    go_wp2
    go_ret
    exact ⟨rfl, HB3.out⟩
  have s_x : x.size ≤ 2147483647 := by omega
  clear g_x
  have S0 : Hid (∀ W, Below w.heap.size w W → Calls Tryd.prog 16 #[.slice A0 L0.length c0] W (Ret (.int .i64 (sumB L0)) W)) := fun W hW => sum_any A0 _ c0 L0 W GF0.out rfl (R0.out.below hW)
  have S1 : Hid (∀ W, Below w.heap.size w W → Calls Tryd.prog 16 #[.slice A1 L1.length c1] W (Ret (.int .i64 (sumB L1)) W)) := fun W hW => sum_any A1 _ c1 L1 W GF1.out rfl (R1.out.below hW)
  have S2 : Hid (∀ W, Below w.heap.size w W → Calls Tryd.prog 16 #[.slice A2 L2.length c2] W (Ret (.int .i64 (sumB L2)) W)) := fun W hW => sum_any A2 _ c2 L2 W GF2.out rfl (R2.out.below hW)
  by_cases gb : (((1048576 < sumB L0) ∨ 1048576 < sumB L1) ∨ 1048576 < sumB L2) ∨ 1048576 < x.size
  · have HB := Lib.hid (fun W => beyond4 (sumB L0) (sumB L1) (sumB L2) (x.size) true (by simpa using gb) W)
    clear gb
    go_enter Tryd.func6, Tryd.ntmps6
    go_wp2_with fail
    refine (G0.out _ HB0.out).mono ?_
    rintro e w1 ⟨rfl, hb1⟩
    have HB1 := Lib.hid (HB0.out.trans (hb1.mono HB0.out.size))
    clear hb1 HB0
    go_wp2_with fail
    refine (G1.out _ HB1.out).mono ?_
    rintro e w2 ⟨rfl, hb1⟩
    have HB2 := Lib.hid (HB1.out.trans (hb1.mono HB1.out.size))
    clear hb1 HB1
    go_wp2_with fail
    refine (G2.out _ HB2.out).mono ?_
    rintro e w3 ⟨rfl, hb1⟩
    have HB3 := Lib.hid (HB2.out.trans (hb1.mono HB2.out.size))
    clear hb1 HB2
    go_wp2_with fail
    refine (S0.out _ HB3.out).mono ?_
    rintro e w4 ⟨rfl, hb1⟩
    have HB4 := Lib.hid (HB3.out.trans (hb1.mono HB3.out.size))
    clear hb1 HB3
    go_wp2_with fail
    refine (S1.out _ HB4.out).mono ?_
    rintro e w5 ⟨rfl, hb1⟩
    have HB5 := Lib.hid (HB4.out.trans (hb1.mono HB4.out.size))
    clear hb1 HB4
    go_wp2_with fail
    refine (S2.out _ HB5.out).mono ?_
    rintro e w6 ⟨rfl, hb1⟩
    have HB6 := Lib.hid (HB5.out.trans (hb1.mono HB5.out.size))
    clear hb1 HB5
    go_wp2_with (go_at_call 10; refine (HB.out _).mono ?_; rintro e wz ⟨rfl, rfl⟩)
    go_ret
    exact ⟨rfl, HB6.out.alloc HB6.out.size _⟩
  have HB := Lib.hid (fun W => beyond4 (sumB L0) (sumB L1) (sumB L2) (x.size) false (by simpa using gb) W)
  clear gb
  by_cases gl0 : listP L0
  rotate_left
  · have HK : Hid (∀ W, Below w.heap.size w W → Calls Tryd.prog 17 #[.slice A0 L0.length c0] W (Ret (.bool false) W)) := fun W hW => listOk_any A0 _ c0 L0 W GF0.out rfl (R0.out.below hW) false ⟨fun e => (by cases e), fun e => absurd e gl0⟩
    clear gl0
    go_enter Tryd.func6, Tryd.ntmps6
    go_wp2_with fail
    refine (G0.out _ HB0.out).mono ?_
    rintro e w1 ⟨rfl, hb1⟩
    have HB1 := Lib.hid (HB0.out.trans (hb1.mono HB0.out.size))
    clear hb1 HB0
    go_wp2_with fail
    refine (G1.out _ HB1.out).mono ?_
    rintro e w2 ⟨rfl, hb1⟩
    have HB2 := Lib.hid (HB1.out.trans (hb1.mono HB1.out.size))
    clear hb1 HB1
    go_wp2_with fail
    refine (G2.out _ HB2.out).mono ?_
    rintro e w3 ⟨rfl, hb1⟩
    have HB3 := Lib.hid (HB2.out.trans (hb1.mono HB2.out.size))
    clear hb1 HB2
    go_wp2_with fail
    refine (S0.out _ HB3.out).mono ?_
    rintro e w4 ⟨rfl, hb1⟩
    have HB4 := Lib.hid (HB3.out.trans (hb1.mono HB3.out.size))
    clear hb1 HB3
    go_wp2_with fail
    refine (S1.out _ HB4.out).mono ?_
    rintro e w5 ⟨rfl, hb1⟩
    have HB5 := Lib.hid (HB4.out.trans (hb1.mono HB4.out.size))
    clear hb1 HB4
    go_wp2_with fail
    refine (S2.out _ HB5.out).mono ?_
    rintro e w6 ⟨rfl, hb1⟩
    have HB6 := Lib.hid (HB5.out.trans (hb1.mono HB5.out.size))
    clear hb1 HB5
    go_wp2_with fail
    go_at_call 10
    refine (HB.out _).mono ?_
    rintro e wz ⟨rfl, rfl⟩
    have HB7 := Lib.hid (HB6.out.alloc HB6.out.size (.cells #[.int .i64 (sumB L0 : Int), .int .i64 (sumB L1 : Int), .int .i64 (sumB L2 : Int), .int .i64 (x.size : Int)] 3))
    clear HB6
    go_wp2_with ((with_reducible refine (HK.out _ HB7.out).mono ?_); rintro e wf ⟨rfl, hbf⟩)
    go_ret
    exact ⟨rfl, HB7.out.trans (hbf.mono HB7.out.size)⟩
  have K0 : Hid (∀ W, Below w.heap.size w W → Calls Tryd.prog 17 #[.slice A0 L0.length c0] W (Ret (.bool true) W)) := fun W hW => listOk_any A0 _ c0 L0 W GF0.out rfl (R0.out.below hW) true ⟨fun _ => gl0, fun _ => rfl⟩
  have GL0 := Lib.hid gl0
  clear gl0
  by_cases gl1 : listP L1
  rotate_left
  · have HK : Hid (∀ W, Below w.heap.size w W → Calls Tryd.prog 17 #[.slice A1 L1.length c1] W (Ret (.bool false) W)) := fun W hW => listOk_any A1 _ c1 L1 W GF1.out rfl (R1.out.below hW) false ⟨fun e => (by cases e), fun e => absurd e gl1⟩
    clear gl1
    go_enter Tryd.func6, Tryd.ntmps6
    go_wp2_with fail
    refine (G0.out _ HB0.out).mono ?_
    rintro e w1 ⟨rfl, hb1⟩
    have HB1 := Lib.hid (HB0.out.trans (hb1.mono HB0.out.size))
    clear hb1 HB0
    go_wp2_with fail
    refine (G1.out _ HB1.out).mono ?_
    rintro e w2 ⟨rfl, hb1⟩
    have HB2 := Lib.hid (HB1.out.trans (hb1.mono HB1.out.size))
    clear hb1 HB1
    go_wp2_with fail
    refine (G2.out _ HB2.out).mono ?_
    rintro e w3 ⟨rfl, hb1⟩
    have HB3 := Lib.hid (HB2.out.trans (hb1.mono HB2.out.size))
    clear hb1 HB2
    go_wp2_with fail
    refine (S0.out _ HB3.out).mono ?_
    rintro e w4 ⟨rfl, hb1⟩
    have HB4 := Lib.hid (HB3.out.trans (hb1.mono HB3.out.size))
    clear hb1 HB3
    go_wp2_with fail
    refine (S1.out _ HB4.out).mono ?_
    rintro e w5 ⟨rfl, hb1⟩
    have HB5 := Lib.hid (HB4.out.trans (hb1.mono HB4.out.size))
    clear hb1 HB4
    go_wp2_with fail
    refine (S2.out _ HB5.out).mono ?_
    rintro e w6 ⟨rfl, hb1⟩
    have HB6 := Lib.hid (HB5.out.trans (hb1.mono HB5.out.size))
    clear hb1 HB5
    go_wp2_with fail
    go_at_call 10
    refine (HB.out _).mono ?_
    rintro e wz ⟨rfl, rfl⟩
    have HB7 := Lib.hid (HB6.out.alloc HB6.out.size (.cells #[.int .i64 (sumB L0 : Int), .int .i64 (sumB L1 : Int), .int .i64 (sumB L2 : Int), .int .i64 (x.size : Int)] 3))
    clear HB6
    go_wp2_with fail
    refine (K0.out _ HB7.out).mono ?_
    rintro e w8 ⟨rfl, hb1⟩
    have HB8 := Lib.hid (HB7.out.trans (hb1.mono HB7.out.size))
    clear hb1 HB7
    go_wp2_with ((with_reducible refine (HK.out _ HB8.out).mono ?_); rintro e wf ⟨rfl, hbf⟩)
    go_ret
    exact ⟨rfl, HB8.out.trans (hbf.mono HB8.out.size)⟩
  have K1 : Hid (∀ W, Below w.heap.size w W → Calls Tryd.prog 17 #[.slice A1 L1.length c1] W (Ret (.bool true) W)) := fun W hW => listOk_any A1 _ c1 L1 W GF1.out rfl (R1.out.below hW) true ⟨fun _ => gl1, fun _ => rfl⟩
  have GL1 := Lib.hid gl1
  clear gl1
  by_cases gl2 : listP L2
  rotate_left
  · have HK : Hid (∀ W, Below w.heap.size w W → Calls Tryd.prog 17 #[.slice A2 L2.length c2] W (Ret (.bool false) W)) := fun W hW => listOk_any A2 _ c2 L2 W GF2.out rfl (R2.out.below hW) false ⟨fun e => (by cases e), fun e => absurd e gl2⟩
    clear gl2
    go_enter Tryd.func6, Tryd.ntmps6
    go_wp2_with fail
    refine (G0.out _ HB0.out).mono ?_
    rintro e w1 ⟨rfl, hb1⟩
    have HB1 := Lib.hid (HB0.out.trans (hb1.mono HB0.out.size))
    clear hb1 HB0
    go_wp2_with fail
    refine (G1.out _ HB1.out).mono ?_
    rintro e w2 ⟨rfl, hb1⟩
    have HB2 := Lib.hid (HB1.out.trans (hb1.mono HB1.out.size))
    clear hb1 HB1
    go_wp2_with fail
    refine (G2.out _ HB2.out).mono ?_
    rintro e w3 ⟨rfl, hb1⟩
    have HB3 := Lib.hid (HB2.out.trans (hb1.mono HB2.out.size))
    clear hb1 HB2
    go_wp2_with fail
    refine (S0.out _ HB3.out).mono ?_
    rintro e w4 ⟨rfl, hb1⟩
    have HB4 := Lib.hid (HB3.out.trans (hb1.mono HB3.out.size))
    clear hb1 HB3
    go_wp2_with fail
    refine (S1.out _ HB4.out).mono ?_
    rintro e w5 ⟨rfl, hb1⟩
    have HB5 := Lib.hid (HB4.out.trans (hb1.mono HB4.out.size))
    clear hb1 HB4
    go_wp2_with fail
    refine (S2.out _ HB5.out).mono ?_
    rintro e w6 ⟨rfl, hb1⟩
    have HB6 := Lib.hid (HB5.out.trans (hb1.mono HB5.out.size))
    clear hb1 HB5
    go_wp2_with fail
    go_at_call 10
    refine (HB.out _).mono ?_
    rintro e wz ⟨rfl, rfl⟩
    have HB7 := Lib.hid (HB6.out.alloc HB6.out.size (.cells #[.int .i64 (sumB L0 : Int), .int .i64 (sumB L1 : Int), .int .i64 (sumB L2 : Int), .int .i64 (x.size : Int)] 3))
    clear HB6
    go_wp2_with fail
    refine (K0.out _ HB7.out).mono ?_
    rintro e w8 ⟨rfl, hb1⟩
    have HB8 := Lib.hid (HB7.out.trans (hb1.mono HB7.out.size))
    clear hb1 HB7
    go_wp2_with fail
    refine (K1.out _ HB8.out).mono ?_
    rintro e w9 ⟨rfl, hb1⟩
    have HB9 := Lib.hid (HB8.out.trans (hb1.mono HB8.out.size))
    clear hb1 HB8
    go_wp2_with ((with_reducible refine (HK.out _ HB9.out).mono ?_); rintro e wf ⟨rfl, hbf⟩)
    go_ret
    exact ⟨rfl, HB9.out.trans (hbf.mono HB9.out.size)⟩
  have K2 : Hid (∀ W, Below w.heap.size w W → Calls Tryd.prog 17 #[.slice A2 L2.length c2] W (Ret (.bool true) W)) := fun W hW => listOk_any A2 _ c2 L2 W GF2.out rfl (R2.out.below hW) true ⟨fun _ => gl2, fun _ => rfl⟩
  have GL2 := Lib.hid gl2
  clear gl2
  cases no_x : nameOk (bytes x)
  · have HK : Hid (∀ W, Below w.heap.size w W → Calls Tryd.prog 12 #[.string x] W (Ret (.bool false) W)) := fun W _ => by have h := nameOk_any x s_x W; rw [no_x] at h; exact h
    clear no_x
    go_enter Tryd.func6, Tryd.ntmps6
    go_wp2_with fail
    refine (G0.out _ HB0.out).mono ?_
    rintro e w1 ⟨rfl, hb1⟩
    have HB1 := Lib.hid (HB0.out.trans (hb1.mono HB0.out.size))
    clear hb1 HB0
    go_wp2_with fail
    refine (G1.out _ HB1.out).mono ?_
    rintro e w2 ⟨rfl, hb1⟩
    have HB2 := Lib.hid (HB1.out.trans (hb1.mono HB1.out.size))
    clear hb1 HB1
    go_wp2_with fail
    refine (G2.out _ HB2.out).mono ?_
    rintro e w3 ⟨rfl, hb1⟩
    have HB3 := Lib.hid (HB2.out.trans (hb1.mono HB2.out.size))
    clear hb1 HB2
    go_wp2_with fail
    refine (S0.out _ HB3.out).mono ?_
    rintro e w4 ⟨rfl, hb1⟩
    have HB4 := Lib.hid (HB3.out.trans (hb1.mono HB3.out.size))
    clear hb1 HB3
    go_wp2_with fail
    refine (S1.out _ HB4.out).mono ?_
    rintro e w5 ⟨rfl, hb1⟩
    have HB5 := Lib.hid (HB4.out.trans (hb1.mono HB4.out.size))
    clear hb1 HB4
    go_wp2_with fail
    refine (S2.out _ HB5.out).mono ?_
    rintro e w6 ⟨rfl, hb1⟩
    have HB6 := Lib.hid (HB5.out.trans (hb1.mono HB5.out.size))
    clear hb1 HB5
    go_wp2_with fail
    go_at_call 10
    refine (HB.out _).mono ?_
    rintro e wz ⟨rfl, rfl⟩
    have HB7 := Lib.hid (HB6.out.alloc HB6.out.size (.cells #[.int .i64 (sumB L0 : Int), .int .i64 (sumB L1 : Int), .int .i64 (sumB L2 : Int), .int .i64 (x.size : Int)] 3))
    clear HB6
    go_wp2_with fail
    refine (K0.out _ HB7.out).mono ?_
    rintro e w8 ⟨rfl, hb1⟩
    have HB8 := Lib.hid (HB7.out.trans (hb1.mono HB7.out.size))
    clear hb1 HB7
    go_wp2_with fail
    refine (K1.out _ HB8.out).mono ?_
    rintro e w9 ⟨rfl, hb1⟩
    have HB9 := Lib.hid (HB8.out.trans (hb1.mono HB8.out.size))
    clear hb1 HB8
    go_wp2_with fail
    refine (K2.out _ HB9.out).mono ?_
    rintro e w10 ⟨rfl, hb1⟩
    have HB10 := Lib.hid (HB9.out.trans (hb1.mono HB9.out.size))
    clear hb1 HB9
    go_wp2_with ((with_reducible refine (HK.out _ HB10.out).mono ?_); rintro e wf ⟨rfl, hbf⟩)
    go_ret
    exact ⟨rfl, HB10.out.trans (hbf.mono HB10.out.size)⟩
  have N_x : Hid (∀ W, Below w.heap.size w W → Calls Tryd.prog 12 #[.string x] W (Ret (.bool true) W)) := fun W _ => by have h := nameOk_any x s_x W; rw [no_x] at h; exact h
  have O_x := Lib.hid no_x
  clear no_x
  have e0 : NamesE L0 := names_list GL0.out
  have e1 : NamesE L1 := names_list GL1.out
  have e2 : NamesE L2 := names_list GL2.out
  have l0 : L0.length ≤ 50 := GL0.out.2
  have l1 : L1.length ≤ 50 := GL1.out.2
  have l2 : L2.length ≤ 50 := GL2.out.2
  obtain ⟨M, hM⟩ : ∃ M, M = L1 ++ L2 := ⟨_, rfl⟩
  have lM : M.length ≤ 100 := by rw [hM, List.length_append]; omega
  have eM : NamesE M := fun y hy => by
    rw [hM] at hy
    rcases List.mem_append.1 hy with h | h
    · exact e1 y h
    · exact e2 y h
  obtain ⟨b0, hb0⟩ := exB (MetD L0 x)
  obtain ⟨b1, hb1⟩ := exB (MetD L1 x)
  have HC1 : Hid (∀ g W, Rd W (some ⟨g, 0, none⟩) (strs [x]) → Calls Tryd.prog 24 #[.slice none 0 0, .slice (some ⟨g, 0, none⟩) 1 1, .string x] W (Ret (.int .i64 1) W)) := fun g W h =>
    implCheckDNS_any none (some ⟨g, 0, none⟩) 0 0 1 1 [] [x] x none (askL [x] true) W O_x.out rfl rfl (Nat.zero_le _) (by simp) (fun _ => rfl) (fun e => (by cases e)) (Rd.nil _ _) h (makes_names [] (Nat.zero_le _) (fun y hy => by cases hy) true x O_x.out false ⟨fun e => (by cases e), fun ⟨y, hy, _⟩ => by cases hy⟩) (makes_names [x] (by simp) (fun y hy => by rw [List.mem_singleton.1 hy]; exact .inr O_x.out) false x O_x.out true ⟨fun _ => ⟨x, List.mem_singleton.2 rfl, .inr (hasSuf_self O_x.out)⟩, fun _ => rfl⟩) true rfl
  have mk0 := makes_names L0 (by omega) e0 true x O_x.out b0 hb0
  have mk1 := makes_names L1 (by omega) e1 false x O_x.out b1 hb1
  have mkN := makes_names [] (Nat.zero_le _) (fun y hy => by cases hy) true x O_x.out false ⟨fun e => (by cases e), fun ⟨y, hy, _⟩ => by cases hy⟩
  have HC2 : Hid (∀ r, refB none (askL L1 b1) = r → ∀ W, Below w.heap.size w W → Calls Tryd.prog 24 #[.slice none 0 0, .slice A1 L1.length c1, .string x] W (Ret (.int .i64 (codeI r)) W)) := fun r hr W hW =>
    implCheckDNS_any none A1 0 0 _ c1 [] L1 x none (askL L1 b1) W O_x.out rfl rfl (Nat.zero_le _) (by omega) (fun _ => rfl) M1.out (Rd.nil _ _) (R1.out.below hW) mkN mk1 r hr
  have HC3 : Hid (b1 = true → L1 ≠ [] → ∀ W, Below w.heap.size w W → Calls Tryd.prog 24 #[.slice A0 L0.length c0, .slice A1 L1.length c1, .string x] W (Ret (.int .i64 1) W)) := fun h1 h2 W hW =>
    implCheckDNS_any A0 A1 _ c0 _ c1 L0 L1 x _ _ W O_x.out rfl rfl (by omega) (by omega) M0.out M1.out (R0.out.below hW) (R1.out.below hW) mk0 mk1 true (by unfold refB; rw [show askL L1 b1 = some true by unfold askL; rw [if_neg h2, h1]]; simp)
  have HC4 : Hid (b1 = true → ∀ A c W, (A = none → c = 0) → Rd W A (strs M) → Calls Tryd.prog 24 #[.slice none 0 0, .slice A M.length c, .string x] W (Ret (.int .i64 1) W)) := fun h1 A c W hA hr => by
    obtain ⟨y, hy, hm⟩ := hb1.1 h1
    have hyM : y ∈ M := by rw [hM]; exact List.mem_append_left _ hy
    have mkM := makes_names M (by omega) eM false x O_x.out true ⟨fun _ => ⟨y, hyM, hm⟩, fun _ => rfl⟩
    exact implCheckDNS_any none A 0 0 _ c [] M x none _ W O_x.out rfl rfl (Nat.zero_le _) (by omega) (fun _ => rfl) hA (Rd.nil _ _) hr mkN mkM true (by unfold refB askL; rw [if_neg (fun e => by rw [e] at hyM; cases hyM)]; rfl)
  have HE : Hid (refB none (askL L1 b1) = true → b1 = true ∧ L1 ≠ []) := fun h => by
    unfold refB askL at h
    by_cases h0 : L1 = []
    · rw [if_pos h0] at h; cases h
    · rw [if_neg h0] at h
      cases b1
      · cases h
      · exact ⟨rfl, h0⟩
  have HM := Lib.hid hM
  have hl01 : ([] : List ByteArray).length + L1.length ≤ 2147483647 := by simp only [List.length_nil]; omega
  have hl12 : L1.length + L2.length ≤ 2147483647 := by omega
  clear mk0 mk1 mkN hb0 hb1 e0 e1 e2 eM hM GL0 GL1 GL2 lM
  go_enter Tryd.func6, Tryd.ntmps6
  go_wp2_with fail
  refine (G0.out _ HB0.out).mono ?_
  rintro e w1 ⟨rfl, hb1⟩
  have HB1 := Lib.hid (HB0.out.trans (hb1.mono HB0.out.size))
  clear hb1 HB0
  go_wp2_with fail
  refine (G1.out _ HB1.out).mono ?_
  rintro e w2 ⟨rfl, hb1⟩
  have HB2 := Lib.hid (HB1.out.trans (hb1.mono HB1.out.size))
  clear hb1 HB1
  go_wp2_with fail
  refine (G2.out _ HB2.out).mono ?_
  rintro e w3 ⟨rfl, hb1⟩
  have HB3 := Lib.hid (HB2.out.trans (hb1.mono HB2.out.size))
  clear hb1 HB2
  go_wp2_with fail
  refine (S0.out _ HB3.out).mono ?_
  rintro e w4 ⟨rfl, hb1⟩
  have HB4 := Lib.hid (HB3.out.trans (hb1.mono HB3.out.size))
  clear hb1 HB3
  go_wp2_with fail
  refine (S1.out _ HB4.out).mono ?_
  rintro e w5 ⟨rfl, hb1⟩
  have HB5 := Lib.hid (HB4.out.trans (hb1.mono HB4.out.size))
  clear hb1 HB4
  go_wp2_with fail
  refine (S2.out _ HB5.out).mono ?_
  rintro e w6 ⟨rfl, hb1⟩
  have HB6 := Lib.hid (HB5.out.trans (hb1.mono HB5.out.size))
  clear hb1 HB5
  go_wp2_with fail
  go_at_call 10
  refine (HB.out _).mono ?_
  rintro e wz ⟨rfl, rfl⟩
  have HB7 := Lib.hid (HB6.out.alloc HB6.out.size (.cells #[.int .i64 (sumB L0 : Int), .int .i64 (sumB L1 : Int), .int .i64 (sumB L2 : Int), .int .i64 (x.size : Int)] 3))
  clear HB6
  go_wp2_with fail
  refine (K0.out _ HB7.out).mono ?_
  rintro e w8 ⟨rfl, hb1⟩
  have HB8 := Lib.hid (HB7.out.trans (hb1.mono HB7.out.size))
  clear hb1 HB7
  go_wp2_with fail
  refine (K1.out _ HB8.out).mono ?_
  rintro e w9 ⟨rfl, hb1⟩
  have HB9 := Lib.hid (HB8.out.trans (hb1.mono HB8.out.size))
  clear hb1 HB8
  go_wp2_with fail
  refine (K2.out _ HB9.out).mono ?_
  rintro e w10 ⟨rfl, hb1⟩
  have HB10 := Lib.hid (HB9.out.trans (hb1.mono HB9.out.size))
  clear hb1 HB9
  go_wp2_with fail
  refine (N_x.out _ HB10.out).mono ?_
  rintro e w11 ⟨rfl, hb1⟩
  have HB11 := Lib.hid (HB10.out.trans (hb1.mono HB10.out.size))
  clear hb1 HB10
  have O0 : Hid (∀ W : World, OwnT (W.alloc (.cells #[] 9)) W.heap.size (.slice (some ⟨W.heap.size, 0, none⟩) 0 0) []) := fun W => World.ownsRow_made W #[] 0 (Nat.le_refl _) (by omega) rfl
  have HBa : Hid (Below w.heap.size w (w11.alloc (.cells #[] 9))) := HB11.out.trans ((Below.one _ _).mono HB11.out.size)
  have Ra := Lib.hid (R1.out.below HBa.out)
  have OA := Lib.hid (O0.out w11)
  have hsz : w11.heap.size ≤ (w11.alloc (.cells #[] 9)).heap.size := by simp
  have HSz := Lib.hid hsz
  clear hsz O0
  go_wp2_with (at_builtin; refine wpList_more_texts rfl (.tmp 57) (.tmp 58) rfl w11.heap.size _ [] A1 L1.length c1 L1 rfl OA.out rfl rfl M1.out Ra.out hl01 HSz.out ?_)
  intro v1 wa own1 hba
  have HBb := Lib.hid (HBa.out.trans (hba.mono HB11.out.size))
  have Rb := Lib.hid (R2.out.below HBb.out)
  have OB := Lib.hid own1
  have HSz2 := Lib.hid (Nat.le_trans HSz.out hba.size)
  clear own1 hba OA Ra HSz HBa
  go_wp2_with (at_builtin; refine wpList_more_texts rfl (.tmp 59) (.tmp 60) rfl w11.heap.size _ L1 A2 L2.length c2 L2 rfl OB.out rfl rfl M2.out Rb.out hl12 HSz2.out ?_)
  intro v2 wb own2 hbb
  rw [← HM.out] at own2
  have HBc := Lib.hid (HBb.out.trans (hbb.mono HB11.out.size))
  obtain ⟨AM, cM, rfl, -, -, hAM, hrM⟩ := own2.rd
  have HAM := Lib.hid hAM
  have HRM := Lib.hid hrM
  clear own2 hbb hAM hrM OB Rb HSz2 HBb HM
  go_wp2_with fail
  refine (HC1.out _ _ (rd_one _ _ _)).mono ?_
  rintro e wd ⟨rfl, hbd⟩
  have HBo : Hid (Below w.heap.size w (wb.alloc (.cells #[.string x] 9))) := HBc.out.trans ((Below.one _ _).mono HBc.out.size)
  have HBd := Lib.hid (HBo.out.trans (hbd.mono HBo.out.size))
  have HRd := Lib.hid ((HRM.out.below (Below.one _ _)).below hbd)
  clear hbd HBo HBc HRM HC1
  cases hr : refB none (askL L1 b1)
  · have H2 : Hid (Calls Tryd.prog 24 #[.slice none 0 0, .slice A1 L1.length c1, .string x] wd (Ret (.int .i64 0) wd)) := HC2.out false hr wd HBd.out
    clear HC2 HC3 HC4 HE hr
    go_wp2_with ((with_reducible refine H2.out.mono ?_); rintro e we ⟨rfl, hbe⟩)
    go_ret
    exact ⟨rfl, HBd.out.trans (hbe.mono HBd.out.size)⟩
  · have H2 : Hid (Calls Tryd.prog 24 #[.slice none 0 0, .slice A1 L1.length c1, .string x] wd (Ret (.int .i64 1) wd)) := HC2.out true hr wd HBd.out
    have hE := HE.out hr
    have H3 := Lib.hid (HC3.out hE.1 hE.2)
    have H4 := Lib.hid (HC4.out hE.1)
    clear HC2 HC3 HC4 HE hr hE
    go_wp2_with fail
    refine H2.out.mono ?_
    rintro e we ⟨rfl, hbe⟩
    have HBe := Lib.hid (HBd.out.trans (hbe.mono HBd.out.size))
    have HRe := Lib.hid (HRd.out.below hbe)
    clear hbe HBd HRd
    go_wp2_with fail
    refine (H3.out _ HBe.out).mono ?_
    rintro e wf ⟨rfl, hbf⟩
    have HBf := Lib.hid (HBe.out.trans (hbf.mono HBe.out.size))
    have HRf := Lib.hid (HRe.out.below hbf)
    clear hbf HBe HRe
    go_wp2_with fail
    refine (H4.out AM cM _ HAM.out HRf.out).mono ?_
    rintro e wg ⟨rfl, hbg⟩
    have HBg := Lib.hid (HBf.out.trans (hbg.mono HBf.out.size))
    clear hbg HBf HRf
    go_wp2
    go_ret
    exact ⟨rfl, HBg.out⟩

set_option maxRecDepth 100000 in
set_option linter.unusedVariables false in
theorem fnCheckMore_lifted (os : Os) (started : os.Started) (H : Type) (enc : TypeId × Value → H) :
    ReturnsInHanded {} Tryd.checked os 6 .any (fun w args => (Rows.fnCheckMoreSpec.pre enc Tryd.prog Tryd.f6 Rows.fnCheckMoreRow.domain false w args ∧ laidMetH Tryd.prog Rows.fnCheckMoreRow.laid w) ∧ sizedMet enc Tryd.prog Tryd.f6 (OpenSpec.ofChange Rows.fnCheckMoreSpec) false w args) (Rows.fnCheckMoreSpec.post enc Tryd.prog Tryd.f6 false true false false) := by
  refine returnsInHanded_of_change_and (C := Tryd.checked) (X := fun w _ => laidMetH Tryd.prog Rows.fnCheckMoreRow.laid w) (fun _ _ _ hh h => h.of_heap hh) own started (by kernel_rfl) Tryd.func6
    (ChangeSpec.witness_shaped (enc := enc) (C := Tryd.checked) (os := os) (X := fun w _ => laidMetH Tryd.prog Rows.fnCheckMoreRow.laid w) false (World.laidAll Tryd.prog os Rows.fnCheckMoreRow.laid) #[.slice none 0 0, .slice none 0 0, .slice none 0 0, .string ByteArray.empty] 8 (World.laidAll_os _ _ _)
      (World.shaped_of_ZipB (by kernel_rfl) (by kernel_rfl)) (by kernel_rfl) (by kernel_rfl) (by kernel_rfl)
      (by rw [MakeChecks.laidMetH_plain _ _ _ (by kernel_rfl)]; exact laidMet_laidAll _ (by kernel_rfl) (by kernel_rfl))) ?_
  intro W base args ds gs before hval0 hW hcnd _ hL _
  have hval : ∀ (j : Nat) t v, Tryd.f6.params[j]? = some t → args[j]? = some v → Value.okWide Tryd.prog W .any base t v := hval0
  have hW' := hW
  obtain ⟨p, q, hA0, hV, rfl, hfz, hnd⟩ := hW
  have hA : DataW.TrodAll enc Tryd.prog W 0 (fun _ => true) true Tryd.f6.params.toList args.toList ds p := hA0
  rw [Tryd.params6] at hA hval
  obtain ⟨v0, vs0, d0, ds0, p0, q0, hargs, rfl, rfl, h0, r0⟩ := trodAll_cons hA
  obtain ⟨v1, vs1, d1, ds1, p1, q1, rfl, rfl, rfl, h1, r1⟩ := trodAll_cons r0
  obtain ⟨v2, vs2, d2, ds2, p2, q2, rfl, rfl, rfl, h2, r2⟩ := trodAll_cons r1
  obtain ⟨v3, vs3, d3, ds3, p3, q3, rfl, rfl, rfl, h3, r3⟩ := trodAll_cons r2
  obtain ⟨rfl, rfl, rfl⟩ := trodAll_nil r3
  obtain rfl : args = #[v0, v1, v2, v3] := by cases args; simp_all
  obtain ⟨rfl, rfl⟩ := trodVars_none hV
  have k0 := h0
  have lt0 : ∀ x ∈ p0, x.block < W.heap.size := by obtain ⟨m, hm⟩ := k0; exact DataW.trod_lt m _ _ _ hm
  obtain ⟨A0, n0, c0, bs0, rfl, w0⟩ := opened_strings (hval 0 24 v0 rfl rfl) h0
  have k1 := h1
  have lt1 : ∀ x ∈ p1, x.block < W.heap.size := by obtain ⟨m, hm⟩ := k1; exact DataW.trod_lt m _ _ _ hm
  obtain ⟨A1, n1, c1, bs1, rfl, w1⟩ := opened_strings (hval 1 24 v1 rfl rfl) h1
  have k2 := h2
  have lt2 : ∀ x ∈ p2, x.block < W.heap.size := by obtain ⟨m, hm⟩ := k2; exact DataW.trod_lt m _ _ _ hm
  obtain ⟨A2, n2, c2, bs2, rfl, w2⟩ := opened_strings (hval 2 24 v2 rfl rfl) h2
  obtain ⟨a3, rfl, rfl, rfl, w3⟩ := open_string Tryd.underlying9 (hval 3 9 v3 rfl rfl) h3
  clear hA0 hval0
  refine (fnCheckMore_walk (w := W) A0 n0 c0 bs0 w0 A1 n1 c1 bs1 w1 A2 n2 c2 bs2 w2 a3 w3).mono fun e W' ⟨he, bel⟩ => ?_
  subst he
  exact ⟨_, rfl, _, _, _, [], _, [], hW', trodAll_mk1 (shut_bool Tryd.underlying4 _), (trodAll_cons_mk (Below.trod laidOut (by kernel_rfl) (of_decide_eq_true (by kernel_rfl)) k0 bel lt0) (trodAll_cons_mk (Below.trod laidOut (by kernel_rfl) (of_decide_eq_true (by kernel_rfl)) k1 bel lt1) (trodAll_cons_mk (Below.trod laidOut (by kernel_rfl) (of_decide_eq_true (by kernel_rfl)) k2 bel lt2) (trodAll_cons_mk (shut_string Tryd.underlying9 w3) trodAll_mk0)))), rfl, bel.frame _, fun h => by cases h⟩
theorem fnCheckMore_facts : joinedFacts Tryd.prog 6 Tryd.f6 Rows.fnCheckMoreSpec Rows.fnCheckMoreRow = true :=
  facts_of rfl head_enter head_lifts head_make rfl rfl (by kernel_rfl) (by kernel_rfl) (by kernel_rfl) (by kernel_rfl) (by kernel_rfl)
set_option maxRecDepth 100000 in
theorem fnCheckMore_row : Rows.FnCheckMoreSaid :=
  OpenClaim.holds_of_wide 6 Tryd.f6 rfl rfl rfl rfl rfl rfl rfl ⟨rfl, rfl, rfl, rfl, rfl⟩ rfl rfl rfl rfl rfl (by kernel_rfl) Tryd.func6 fnCheckMore_facts
    (of_decide_eq_true (by kernel_rfl)) (by unfold Func.isWrapper; first | (rw [if_pos (by decide +kernel)]; kernel_rfl) | (rw [if_neg (by decide +kernel)]; exact ⟨rfl, rfl⟩))
    (fun os started H enc _ => fnCheckMore_lifted os started H enc)
set_option maxRecDepth 100000 in
theorem fnCheckMore_holds : Rows.FnCheckMoreCardSaid :=
  Claim7.holds_tied_plain_at .later [] [.data, .pinned, .pinned] true (true, "47dc8390ac227de7a865ba6f089e7475486b30b73b4649b8ec8f28900be40170") false fnCheckMore_row (fun _ h => by cases h) (by kernel_rfl) (fun _ h => by cases h) fnCheckMore_row_tie rfl ⟨rfl, rfl⟩ (by kernel_rfl) rfl
    (fun f fn hf hfn => by
      obtain rfl : f = 6 := Option.some.inj ((show Tryd.prog.funcNamed "loop.example/pub-g03129/laws.FnCheckMore" = some 6 by kernel_rfl).symm.trans hf) |>.symm
      obtain rfl : fn = Tryd.f6 := (Option.some.inj (Tryd.func6.symm.trans hfn)).symm
      exact ⟨by kernel_rfl, fun j t ht => by
        rw [Tryd.params6] at ht
        have hm : t ∈ [24, 24, 24, 9] := by simpa using Array.mem_of_getElem? ht
        have hall : ([24, 24, 24, 9].all fun u => !Tryd.prog.wantsStandIn u) = true := by kernel_rfl
        exact (show Tryd.prog.wantsStandIn t = false by simpa using List.all_eq_true.1 hall t hm)⟩)
    (by kernel_rfl)
end Go.Proofs.YtdinnpjplgkffaaDoor
