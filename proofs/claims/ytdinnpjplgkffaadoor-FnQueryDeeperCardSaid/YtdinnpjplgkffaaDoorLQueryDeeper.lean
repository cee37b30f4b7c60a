/-
  FnQueryDeeper holds: a name that meets a constraint does so with labels more ahead of it, and with constraints more. For every input; no condition of ours. And its tied card.
-/
import Derived.Test.YtdinnpjplgkffaaDoorE8
import Derived.Test.YtdinnpjplgkffaaDoorTie
import Derived.Test.YtdinnpjplgkffaaDoorCards
import Derived.LaidMore
import Derived.Lay
import Derived.SevenTiedAt
import Derived.Stop.Joined
namespace Go.Proofs.YtdinnpjplgkffaaDoor
open Go.ChangeShapes Go.WideShapes Go.ChangeAt Go.RowKit
open Go.ChangeMaps (open_string shut_string)

theorem key_dot (z x : List UInt8) : KSub (key x) (key (z ++ 46 :: x)) := by
  rw [show (46 :: x) = [46] ++ x from rfl, key_append, key_append, List.append_assoc]
  refine ⟨List.prefix_append _ _, .inr (.inr ?_)⟩
  rw [List.getElem?_append_right (Nat.le_refl _), Nat.sub_self]
  rfl
/-- A label, a dot and a name. -/
def moreB (y x : ByteArray) : ByteArray := (y ++ ⟨#[46]⟩) ++ x
theorem moreB_bytes (y x : ByteArray) : bytes (moreB y x) = bytes y ++ 46 :: bytes x := by
  unfold moreB
  rw [bytes_append, bytes_append, List.append_assoc]; rfl
theorem moreB_ask {y x : ByteArray} (hy : AskT y) (hx : AskT x) (h1 : y.size ≤ 200) (h2 : x.size ≤ 200) : AskT (moreB y x) := by
  refine ⟨?_, ?_, ?_⟩
  · rw [moreB_bytes]
    intro c hc
    rcases List.mem_append.1 hc with h | h
    · exact hy.1 c h
    · rcases List.mem_cons.1 h with rfl | h
      · exact .inl rfl
      · exact hx.1 c h
  · rw [← bytes_length, moreB_bytes, List.length_append, List.length_cons]; omega
  · rw [← bytes_length, moreB_bytes, List.length_append, List.length_cons, bytes_length, bytes_length]; omega
theorem metD_more {L : List ByteArray} {y x : ByteArray} (hL : NamesE L) (hx : AskT x) (hz : AskT (moreB y x)) (h : MetD L x) : MetD L (moreB y x) := by
  obtain ⟨k, hk, h⟩ := h
  refine ⟨k, hk, ?_⟩
  rcases h with h | h
  · exact .inl h
  · rcases hL k hk with e | e
    · exact .inl e
    · right
      have h0 : bytes k ≠ [] := fun e2 => by have := nameOk_pos e; rw [e2] at this; cases this
      refine (suf_key (nameOk_bytes e) hz.1 h0).2 ?_
      have h1 := (suf_key (nameOk_bytes e) hx.1 h0).1 h
      rw [moreB_bytes]
      exact h1.trans (key_dot _ _)
theorem own_text1 (w : World) (x : ByteArray) : OwnT (w.alloc (.cells #[.string x] 9)) w.heap.size (.slice (some ⟨w.heap.size, 0, none⟩) 1 1) [x] :=
  ⟨by rw [strs_length]; rfl, .inr ⟨w.heap.size, 1, #[.string x], rfl, Nat.le_refl _, heap_alloc_new w _, Nat.le_refl _, by decide, rfl, rfl⟩⟩
theorem nameOk_a : nameOk (bytes ⟨#[97]⟩) = true := by decide +kernel

set_option maxRecDepth 100000 in
set_option maxHeartbeats 8000000 in
theorem fnQueryDeeper_walk {w : World} (A0 : Option Addr) (n0 c0 : Nat) (L0 : List ByteArray) (t0 : TextsR w A0 n0 c0 L0) (A1 : Option Addr) (n1 c1 : Nat) (L1 : List ByteArray) (t1 : TextsR w A1 n1 c1 L1) (pm : Bool) (x : ByteArray) (hx0 : x.size ≤ maxLen) (y : ByteArray) (hy0 : y.size ≤ maxLen) :
    Calls Tryd.prog 4 #[.slice A0 n0 c0, .slice A1 n1 c1, .bool pm, .string x, .string y] w (Ret (.bool true) w) := by
  have HB0 : Hid (Below w.heap.size w w) := Below.refl _ _
  obtain ⟨rfl, a0, b0, d0, f0, r0⟩ := t0
  have R0 := Lib.hid r0
  have M0 := Lib.hid d0
  have ml0 : L0.length ≤ maxLen := Nat.le_trans a0 b0
  have F0 := Lib.hid (fun b hb W (hW : Below w.heap.size w W) => fits_any A0 _ c0 L0 W b hb rfl ml0 f0 (r0.below hW))
  clear r0 d0 f0
  obtain ⟨rfl, a1, b1, d1, f1, r1⟩ := t1
  have R1 := Lib.hid r1
  have M1 := Lib.hid d1
  have ml1 : L1.length ≤ maxLen := Nat.le_trans a1 b1
  have F1 := Lib.hid (fun b hb W (hW : Below w.heap.size w W) => fits_any A1 _ c1 L1 W b hb rfl ml1 f1 (r1.below hW))
  clear r1 d1 f1
  unfold maxLen at *
  by_cases gf0 : fitsP L0
  rotate_left
  · have HK : Hid (∀ W, Below w.heap.size w W → Calls Tryd.prog 15 #[.slice A0 L0.length c0] W (Ret (.bool false) W)) := fun W hW => F0.out false ⟨fun e => (by cases e), fun e => absurd e gf0⟩ W hW
    go_enter Tryd.func4, Tryd.ntmps4
    go_wp2_with ((with_reducible refine (HK.out _ HB0.out).mono ?_); rintro e wf ⟨rfl, hbf⟩)
    go_ret
    exact ⟨rfl, HB0.out.trans (hbf.mono HB0.out.size)⟩
  have G0 : Hid (∀ W, Below w.heap.size w W → Calls Tryd.prog 15 #[.slice A0 L0.length c0] W (Ret (.bool true) W)) := fun W hW => F0.out true ⟨fun _ => gf0, fun _ => rfl⟩ W hW
  have GF0 := Lib.hid gf0
  clear gf0 F0
  by_cases gf1 : fitsP L1
  rotate_left
  · have HK : Hid (∀ W, Below w.heap.size w W → Calls Tryd.prog 15 #[.slice A1 L1.length c1] W (Ret (.bool false) W)) := fun W hW => F1.out false ⟨fun e => (by cases e), fun e => absurd e gf1⟩ W hW
    go_enter Tryd.func4, Tryd.ntmps4
    go_wp2_with fail
    refine (G0.out _ HB0.out).mono ?_
    rintro e w1 ⟨rfl, hb1⟩
    have HB1 := Lib.hid (HB0.out.trans (hb1.mono HB0.out.size))
    clear hb1 HB0
    go_wp2_with ((with_reducible refine (HK.out _ HB1.out).mono ?_); rintro e wf ⟨rfl, hbf⟩)
    go_ret
    exact ⟨rfl, HB1.out.trans (hbf.mono HB1.out.size)⟩
  have G1 : Hid (∀ W, Below w.heap.size w W → Calls Tryd.prog 15 #[.slice A1 L1.length c1] W (Ret (.bool true) W)) := fun W hW => F1.out true ⟨fun _ => gf1, fun _ => rfl⟩ W hW
  have GF1 := Lib.hid gf1
  clear gf1 F1
  by_cases g_x : 2147483647 < x.size
  · go_enter Tryd.func4, Tryd.ntmps4
    go_wp2_with fail
    refine (G0.out _ HB0.out).mono ?_
    rintro e w1 ⟨rfl, hb1⟩
    have HB1 := Lib.hid (HB0.out.trans (hb1.mono HB0.out.size))
    clear hb1 HB0
    go_wp2_with fail
    refine (G1.out _ HB1.out).mono ?_
    rintro e w2 ⟨rfl, hb1⟩
    have HB2 := Lib.hid (HB1.out.trans (hb1.mono HB1.out.size))
    clear hb1 HB1
    go_wp2
    go_ret
    exact ⟨rfl, HB2.out⟩
  have s_x : x.size ≤ 2147483647 := by omega
  clear g_x
  by_cases g_y : 2147483647 < y.size
  · go_enter Tryd.func4, Tryd.ntmps4
    go_wp2_with fail
    refine (G0.out _ HB0.out).mono ?_
    rintro e w1 ⟨rfl, hb1⟩
    have HB1 := Lib.hid (HB0.out.trans (hb1.mono HB0.out.size))
    clear hb1 HB0
    go_wp2_with fail
    refine (G1.out _ HB1.out).mono ?_
    rintro e w2 ⟨rfl, hb1⟩
    have HB2 := Lib.hid (HB1.out.trans (hb1.mono HB1.out.size))
    clear hb1 HB1
    go_wp2
    go_ret
    exact ⟨rfl, HB2.out⟩
  have s_y : y.size ≤ 2147483647 := by omega
  clear g_y
  have S0 : Hid (∀ W, Below w.heap.size w W → Calls Tryd.prog 16 #[.slice A0 L0.length c0] W (Ret (.int .i64 (sumB L0)) W)) := fun W hW => sum_any A0 _ c0 L0 W GF0.out rfl (R0.out.below hW)
  have S1 : Hid (∀ W, Below w.heap.size w W → Calls Tryd.prog 16 #[.slice A1 L1.length c1] W (Ret (.int .i64 (sumB L1)) W)) := fun W hW => sum_any A1 _ c1 L1 W GF1.out rfl (R1.out.below hW)
  by_cases gb : (((1048576 < sumB L0) ∨ 1048576 < sumB L1) ∨ 1048576 < x.size) ∨ 1048576 < y.size
  · have HB := Lib.hid (fun W => beyond4 (sumB L0) (sumB L1) (x.size) (y.size) true (by simpa using gb) W)
    clear gb
    go_enter Tryd.func4, Tryd.ntmps4
    go_wp2_with fail
    refine (G0.out _ HB0.out).mono ?_
    rintro e w1 ⟨rfl, hb1⟩
    have HB1 := Lib.hid (HB0.out.trans (hb1.mono HB0.out.size))
    clear hb1 HB0
    go_wp2_with fail
    refine (G1.out _ HB1.out).mono ?_
    rintro e w2 ⟨rfl, hb1⟩
    have HB2 := Lib.hid (HB1.out.trans (hb1.mono HB1.out.size))
    clear hb1 HB1
    go_wp2_with fail
    refine (S0.out _ HB2.out).mono ?_
    rintro e w3 ⟨rfl, hb1⟩
    have HB3 := Lib.hid (HB2.out.trans (hb1.mono HB2.out.size))
    clear hb1 HB2
    go_wp2_with fail
    refine (S1.out _ HB3.out).mono ?_
    rintro e w4 ⟨rfl, hb1⟩
    have HB4 := Lib.hid (HB3.out.trans (hb1.mono HB3.out.size))
    clear hb1 HB3
    go_wp2_with (go_at_call 10; refine (HB.out _).mono ?_; rintro e wz ⟨rfl, rfl⟩)
    go_ret
    exact ⟨rfl, HB4.out.alloc HB4.out.size _⟩
  have HB := Lib.hid (fun W => beyond4 (sumB L0) (sumB L1) (x.size) (y.size) false (by simpa using gb) W)
  clear gb
  by_cases gl0 : listP L0
  rotate_left
  · have HK : Hid (∀ W, Below w.heap.size w W → Calls Tryd.prog 17 #[.slice A0 L0.length c0] W (Ret (.bool false) W)) := fun W hW => listOk_any A0 _ c0 L0 W GF0.out rfl (R0.out.below hW) false ⟨fun e => (by cases e), fun e => absurd e gl0⟩
    clear gl0
    go_enter Tryd.func4, Tryd.ntmps4
    go_wp2_with fail
    refine (G0.out _ HB0.out).mono ?_
    rintro e w1 ⟨rfl, hb1⟩
    have HB1 := Lib.hid (HB0.out.trans (hb1.mono HB0.out.size))
    clear hb1 HB0
    go_wp2_with fail
    refine (G1.out _ HB1.out).mono ?_
    rintro e w2 ⟨rfl, hb1⟩
    have HB2 := Lib.hid (HB1.out.trans (hb1.mono HB1.out.size))
    clear hb1 HB1
    go_wp2_with fail
    refine (S0.out _ HB2.out).mono ?_
    rintro e w3 ⟨rfl, hb1⟩
    have HB3 := Lib.hid (HB2.out.trans (hb1.mono HB2.out.size))
    clear hb1 HB2
    go_wp2_with fail
    refine (S1.out _ HB3.out).mono ?_
    rintro e w4 ⟨rfl, hb1⟩
    have HB4 := Lib.hid (HB3.out.trans (hb1.mono HB3.out.size))
    clear hb1 HB3
    go_wp2_with fail
    go_at_call 10
    refine (HB.out _).mono ?_
    rintro e wz ⟨rfl, rfl⟩
    have HB5 := Lib.hid (HB4.out.alloc HB4.out.size (.cells #[.int .i64 (sumB L0 : Int), .int .i64 (sumB L1 : Int), .int .i64 (x.size : Int), .int .i64 (y.size : Int)] 3))
    clear HB4
    go_wp2_with ((with_reducible refine (HK.out _ HB5.out).mono ?_); rintro e wf ⟨rfl, hbf⟩)
    go_ret
    exact ⟨rfl, HB5.out.trans (hbf.mono HB5.out.size)⟩
  have K0 : Hid (∀ W, Below w.heap.size w W → Calls Tryd.prog 17 #[.slice A0 L0.length c0] W (Ret (.bool true) W)) := fun W hW => listOk_any A0 _ c0 L0 W GF0.out rfl (R0.out.below hW) true ⟨fun _ => gl0, fun _ => rfl⟩
  have GL0 := Lib.hid gl0
  clear gl0
  by_cases gl1 : listP L1
  rotate_left
  · have HK : Hid (∀ W, Below w.heap.size w W → Calls Tryd.prog 17 #[.slice A1 L1.length c1] W (Ret (.bool false) W)) := fun W hW => listOk_any A1 _ c1 L1 W GF1.out rfl (R1.out.below hW) false ⟨fun e => (by cases e), fun e => absurd e gl1⟩
    clear gl1
    go_enter Tryd.func4, Tryd.ntmps4
    go_wp2_with fail
    refine (G0.out _ HB0.out).mono ?_
    rintro e w1 ⟨rfl, hb1⟩
    have HB1 := Lib.hid (HB0.out.trans (hb1.mono HB0.out.size))
    clear hb1 HB0
    go_wp2_with fail
    refine (G1.out _ HB1.out).mono ?_
    rintro e w2 ⟨rfl, hb1⟩
    have HB2 := Lib.hid (HB1.out.trans (hb1.mono HB1.out.size))
    clear hb1 HB1
    go_wp2_with fail
    refine (S0.out _ HB2.out).mono ?_
    rintro e w3 ⟨rfl, hb1⟩
    have HB3 := Lib.hid (HB2.out.trans (hb1.mono HB2.out.size))
    clear hb1 HB2
    go_wp2_with fail
    refine (S1.out _ HB3.out).mono ?_
    rintro e w4 ⟨rfl, hb1⟩
    have HB4 := Lib.hid (HB3.out.trans (hb1.mono HB3.out.size))
    clear hb1 HB3
    go_wp2_with fail
    go_at_call 10
    refine (HB.out _).mono ?_
    rintro e wz ⟨rfl, rfl⟩
    have HB5 := Lib.hid (HB4.out.alloc HB4.out.size (.cells #[.int .i64 (sumB L0 : Int), .int .i64 (sumB L1 : Int), .int .i64 (x.size : Int), .int .i64 (y.size : Int)] 3))
    clear HB4
    go_wp2_with fail
    refine (K0.out _ HB5.out).mono ?_
    rintro e w6 ⟨rfl, hb1⟩
    have HB6 := Lib.hid (HB5.out.trans (hb1.mono HB5.out.size))
    clear hb1 HB5
    go_wp2_with ((with_reducible refine (HK.out _ HB6.out).mono ?_); rintro e wf ⟨rfl, hbf⟩)
    go_ret
    exact ⟨rfl, HB6.out.trans (hbf.mono HB6.out.size)⟩
  have K1 : Hid (∀ W, Below w.heap.size w W → Calls Tryd.prog 17 #[.slice A1 L1.length c1] W (Ret (.bool true) W)) := fun W hW => listOk_any A1 _ c1 L1 W GF1.out rfl (R1.out.below hW) true ⟨fun _ => gl1, fun _ => rfl⟩
  have GL1 := Lib.hid gl1
  clear gl1
  cases no_x : nameOk (bytes x)
  · have HK : Hid (∀ W, Below w.heap.size w W → Calls Tryd.prog 12 #[.string x] W (Ret (.bool false) W)) := fun W _ => by have h := nameOk_any x s_x W; rw [no_x] at h; exact h
    clear no_x
    go_enter Tryd.func4, Tryd.ntmps4
    go_wp2_with fail
    refine (G0.out _ HB0.out).mono ?_
    rintro e w1 ⟨rfl, hb1⟩
    have HB1 := Lib.hid (HB0.out.trans (hb1.mono HB0.out.size))
    clear hb1 HB0
    go_wp2_with fail
    refine (G1.out _ HB1.out).mono ?_
    rintro e w2 ⟨rfl, hb1⟩
    have HB2 := Lib.hid (HB1.out.trans (hb1.mono HB1.out.size))
    clear hb1 HB1
    go_wp2_with fail
    refine (S0.out _ HB2.out).mono ?_
    rintro e w3 ⟨rfl, hb1⟩
    have HB3 := Lib.hid (HB2.out.trans (hb1.mono HB2.out.size))
    clear hb1 HB2
    go_wp2_with fail
    refine (S1.out _ HB3.out).mono ?_
    rintro e w4 ⟨rfl, hb1⟩
    have HB4 := Lib.hid (HB3.out.trans (hb1.mono HB3.out.size))
    clear hb1 HB3
    go_wp2_with fail
    go_at_call 10
    refine (HB.out _).mono ?_
    rintro e wz ⟨rfl, rfl⟩
    have HB5 := Lib.hid (HB4.out.alloc HB4.out.size (.cells #[.int .i64 (sumB L0 : Int), .int .i64 (sumB L1 : Int), .int .i64 (x.size : Int), .int .i64 (y.size : Int)] 3))
    clear HB4
    go_wp2_with fail
    refine (K0.out _ HB5.out).mono ?_
    rintro e w6 ⟨rfl, hb1⟩
    have HB6 := Lib.hid (HB5.out.trans (hb1.mono HB5.out.size))
    clear hb1 HB5
    go_wp2_with fail
    refine (K1.out _ HB6.out).mono ?_
    rintro e w7 ⟨rfl, hb1⟩
    have HB7 := Lib.hid (HB6.out.trans (hb1.mono HB6.out.size))
    clear hb1 HB6
    go_wp2_with ((with_reducible refine (HK.out _ HB7.out).mono ?_); rintro e wf ⟨rfl, hbf⟩)
    go_ret
    exact ⟨rfl, HB7.out.trans (hbf.mono HB7.out.size)⟩
  have N_x : Hid (∀ W, Below w.heap.size w W → Calls Tryd.prog 12 #[.string x] W (Ret (.bool true) W)) := fun W _ => by have h := nameOk_any x s_x W; rw [no_x] at h; exact h
  have O_x := Lib.hid no_x
  clear no_x
  cases no_y : nameOk (bytes y)
  · have HK : Hid (∀ W, Below w.heap.size w W → Calls Tryd.prog 12 #[.string y] W (Ret (.bool false) W)) := fun W _ => by have h := nameOk_any y s_y W; rw [no_y] at h; exact h
    clear no_y
    go_enter Tryd.func4, Tryd.ntmps4
    go_wp2_with fail
    refine (G0.out _ HB0.out).mono ?_
    rintro e w1 ⟨rfl, hb1⟩
    have HB1 := Lib.hid (HB0.out.trans (hb1.mono HB0.out.size))
    clear hb1 HB0
    go_wp2_with fail
    refine (G1.out _ HB1.out).mono ?_
    rintro e w2 ⟨rfl, hb1⟩
    have HB2 := Lib.hid (HB1.out.trans (hb1.mono HB1.out.size))
    clear hb1 HB1
    go_wp2_with fail
    refine (S0.out _ HB2.out).mono ?_
    rintro e w3 ⟨rfl, hb1⟩
    have HB3 := Lib.hid (HB2.out.trans (hb1.mono HB2.out.size))
    clear hb1 HB2
    go_wp2_with fail
    refine (S1.out _ HB3.out).mono ?_
    rintro e w4 ⟨rfl, hb1⟩
    have HB4 := Lib.hid (HB3.out.trans (hb1.mono HB3.out.size))
    clear hb1 HB3
    go_wp2_with fail
    go_at_call 10
    refine (HB.out _).mono ?_
    rintro e wz ⟨rfl, rfl⟩
    have HB5 := Lib.hid (HB4.out.alloc HB4.out.size (.cells #[.int .i64 (sumB L0 : Int), .int .i64 (sumB L1 : Int), .int .i64 (x.size : Int), .int .i64 (y.size : Int)] 3))
    clear HB4
    go_wp2_with fail
    refine (K0.out _ HB5.out).mono ?_
    rintro e w6 ⟨rfl, hb1⟩
    have HB6 := Lib.hid (HB5.out.trans (hb1.mono HB5.out.size))
    clear hb1 HB5
    go_wp2_with fail
    refine (K1.out _ HB6.out).mono ?_
    rintro e w7 ⟨rfl, hb1⟩
    have HB7 := Lib.hid (HB6.out.trans (hb1.mono HB6.out.size))
    clear hb1 HB6
    go_wp2_with fail
    refine (N_x.out _ HB7.out).mono ?_
    rintro e w8 ⟨rfl, hb1⟩
    have HB8 := Lib.hid (HB7.out.trans (hb1.mono HB7.out.size))
    clear hb1 HB7
    go_wp2_with ((with_reducible refine (HK.out _ HB8.out).mono ?_); rintro e wf ⟨rfl, hbf⟩)
    go_ret
    exact ⟨rfl, HB8.out.trans (hbf.mono HB8.out.size)⟩
  have N_y : Hid (∀ W, Below w.heap.size w W → Calls Tryd.prog 12 #[.string y] W (Ret (.bool true) W)) := fun W _ => by have h := nameOk_any y s_y W; rw [no_y] at h; exact h
  have O_y := Lib.hid no_y
  clear no_y
  have e0 : NamesE L0 := names_list GL0.out
  have e1 : NamesE L1 := names_list GL1.out
  have l0 : L0.length ≤ 50 := GL0.out.2
  have l1 : L1.length ≤ 50 := GL1.out.2
  obtain ⟨M, hM⟩ : ∃ M, M = L0 ++ L1 := ⟨_, rfl⟩
  have lM : M.length ≤ 100 := by rw [hM, List.length_append]; omega
  have eM : NamesE M := fun k hk => by
    rw [hM] at hk
    rcases List.mem_append.1 hk with h | h
    · exact e0 k h
    · exact e1 k h
  obtain ⟨P, hP⟩ : ∃ P : List ByteArray, P = ⟨#[97]⟩ :: L0 := ⟨_, rfl⟩
  have lP : P.length ≤ 100 := by rw [hP, List.length_cons]; omega
  have eP : NamesE P := fun k hk => by
    rw [hP] at hk
    rcases List.mem_cons.1 hk with h | h
    · rw [h]; exact .inr nameOk_a
    · exact e0 k h
  obtain ⟨b0, hb0⟩ := exB (MetD L0 x)
  have ax := AskT.of O_x.out
  have ay := AskT.of O_y.out
  have z1 : x.size ≤ 200 := by have := nameOk_size O_x.out; rwa [bytes_length] at this
  have z2 : y.size ≤ 200 := by have := nameOk_size O_y.out; rwa [bytes_length] at this
  have az := moreB_ask ay ax z2 z1
  have HQ : Hid (∀ W, Below w.heap.size w W → Calls Tryd.prog 18 #[.slice A0 L0.length c0, .bool pm, .string x] W (Ret (.bool b0) W)) := fun W hW =>
    implQueryDNS_any A0 _ c0 L0 pm x W O_x.out rfl (by omega) e0 M0.out (R0.out.below hW) b0 hb0
  have HQa : Hid (∀ A c W, (A = none → c = 0) → Rd W A (strs P) → Calls Tryd.prog 18 #[.slice A P.length c, .bool pm, .string ⟨#[97]⟩] W (Ret (.bool true) W)) := fun A c W hA hr =>
    implQueryDNS_any A _ c P pm ⟨#[97]⟩ W nameOk_a rfl (by omega) eP hA hr true ⟨fun _ => ⟨⟨#[97]⟩, by rw [hP]; simp, .inr (hasSuf_self nameOk_a)⟩, fun _ => rfl⟩
  have HQz : Hid (b0 = true → ∀ W, Below w.heap.size w W → Calls Tryd.prog 18 #[.slice A0 L0.length c0, .bool pm, .string (moreB y x)] W (Ret (.bool true) W)) := fun h1 W hW =>
    implQueryDNS_ask A0 _ c0 L0 pm (moreB y x) W az rfl (by omega) e0 M0.out (R0.out.below hW) true ⟨fun _ => metD_more e0 ax az (hb0.1 h1), fun _ => rfl⟩
  have HQM : Hid (b0 = true → ∀ A c W, (A = none → c = 0) → Rd W A (strs M) → Calls Tryd.prog 18 #[.slice A M.length c, .bool pm, .string x] W (Ret (.bool true) W)) := fun h1 A c W hA hr => by
    obtain ⟨k, hk, hm⟩ := hb0.1 h1
    exact implQueryDNS_any A _ c M pm x W O_x.out rfl (by omega) eM hA hr true ⟨fun _ => ⟨k, by rw [hM]; exact List.mem_append_left _ hk, hm⟩, fun _ => rfl⟩
  unfold moreB at HQz
  have HM := Lib.hid hM
  have HP := Lib.hid hP
  have hl01 : ([] : List ByteArray).length + L0.length ≤ 2147483647 := by simp only [List.length_nil]; omega
  have hl12 : L0.length + L1.length ≤ 2147483647 := by omega
  have hla : ([⟨#[97]⟩] : List ByteArray).length + L0.length ≤ 2147483647 := by simp only [List.length_cons, List.length_nil]; omega
  clear hb0 e0 e1 eM eP hM hP GL0 GL1 lM lP ax ay az
  go_enter Tryd.func4, Tryd.ntmps4
  go_wp2_with fail
  refine (G0.out _ HB0.out).mono ?_
  rintro e w1 ⟨rfl, hb1⟩
  have HB1 := Lib.hid (HB0.out.trans (hb1.mono HB0.out.size))
  clear hb1 HB0
  go_wp2_with fail
  refine (G1.out _ HB1.out).mono ?_
  rintro e w2 ⟨rfl, hb1⟩
  have HB2 := Lib.hid (HB1.out.trans (hb1.mono HB1.out.size))
  clear hb1 HB1
  go_wp2_with fail
  refine (S0.out _ HB2.out).mono ?_
  rintro e w3 ⟨rfl, hb1⟩
  have HB3 := Lib.hid (HB2.out.trans (hb1.mono HB2.out.size))
  clear hb1 HB2
  go_wp2_with fail
  refine (S1.out _ HB3.out).mono ?_
  rintro e w4 ⟨rfl, hb1⟩
  have HB4 := Lib.hid (HB3.out.trans (hb1.mono HB3.out.size))
  clear hb1 HB3
  go_wp2_with fail
  go_at_call 10
  refine (HB.out _).mono ?_
  rintro e wz ⟨rfl, rfl⟩
  have HB5 := Lib.hid (HB4.out.alloc HB4.out.size (.cells #[.int .i64 (sumB L0 : Int), .int .i64 (sumB L1 : Int), .int .i64 (x.size : Int), .int .i64 (y.size : Int)] 3))
  clear HB4
  go_wp2_with fail
  refine (K0.out _ HB5.out).mono ?_
  rintro e w6 ⟨rfl, hb1⟩
  have HB6 := Lib.hid (HB5.out.trans (hb1.mono HB5.out.size))
  clear hb1 HB5
  go_wp2_with fail
  refine (K1.out _ HB6.out).mono ?_
  rintro e w7 ⟨rfl, hb1⟩
  have HB7 := Lib.hid (HB6.out.trans (hb1.mono HB6.out.size))
  clear hb1 HB6
  go_wp2_with fail
  refine (N_x.out _ HB7.out).mono ?_
  rintro e w8 ⟨rfl, hb1⟩
  have HB8 := Lib.hid (HB7.out.trans (hb1.mono HB7.out.size))
  clear hb1 HB7
  go_wp2_with fail
  refine (N_y.out _ HB8.out).mono ?_
  rintro e w9 ⟨rfl, hb1⟩
  have HB9 := Lib.hid (HB8.out.trans (hb1.mono HB8.out.size))
  clear hb1 HB8
  have O0 : Hid (∀ W : World, OwnT (W.alloc (.cells #[] 9)) W.heap.size (.slice (some ⟨W.heap.size, 0, none⟩) 0 0) []) := fun W => World.ownsRow_made W #[] 0 (Nat.le_refl _) (by omega) rfl
  have HBa : Hid (Below w.heap.size w (w9.alloc (.cells #[] 9))) := HB9.out.trans ((Below.one _ _).mono HB9.out.size)
  have Ra := Lib.hid (R0.out.below HBa.out)
  have OA := Lib.hid (O0.out w9)
  have hsz : w9.heap.size ≤ (w9.alloc (.cells #[] 9)).heap.size := by simp
  have HSz := Lib.hid hsz
  clear hsz O0
  go_wp2_with (at_builtin; refine wpList_more_texts rfl (.tmp 59) (.tmp 60) rfl w9.heap.size _ [] A0 L0.length c0 L0 rfl OA.out rfl rfl M0.out Ra.out hl01 HSz.out ?_)
  intro v1 wa own1 hba
  have HBb := Lib.hid (HBa.out.trans (hba.mono HB9.out.size))
  have Rb := Lib.hid (R1.out.below HBb.out)
  have OB := Lib.hid own1
  have HSz2 := Lib.hid (Nat.le_trans HSz.out hba.size)
  clear own1 hba OA Ra HSz HBa
  go_wp2_with (at_builtin; refine wpList_more_texts rfl (.tmp 61) (.tmp 62) rfl w9.heap.size _ L0 A1 L1.length c1 L1 rfl OB.out rfl rfl M1.out Rb.out hl12 HSz2.out ?_)
  intro v2 wb own2 hbb
  rw [← HM.out] at own2
  have HBc := Lib.hid (HBb.out.trans (hbb.mono HB9.out.size))
  obtain ⟨AM, cM, rfl, -, -, hAM, hrM⟩ := own2.rd
  have HAM := Lib.hid hAM
  have HRM := Lib.hid hrM
  clear own2 hbb hAM hrM OB Rb HSz2 HBb HM
  have OC : Hid (OwnT (wb.alloc (.cells #[.string ⟨#[97]⟩] 9)) wb.heap.size (.slice (some ⟨wb.heap.size, 0, none⟩) 1 1) [⟨#[97]⟩]) := own_text1 wb ⟨#[97]⟩
  have HBd : Hid (Below w.heap.size w (wb.alloc (.cells #[.string ⟨#[97]⟩] 9))) := HBc.out.trans ((Below.one _ _).mono HBc.out.size)
  have Rd0 := Lib.hid (R0.out.below HBd.out)
  have hsz : wb.heap.size ≤ (wb.alloc (.cells #[.string ⟨#[97]⟩] 9)).heap.size := by simp
  have HSz := Lib.hid hsz
  clear hsz
  go_wp2_with (at_builtin; refine wpList_more_texts rfl (.tmp 64) (.tmp 65) rfl wb.heap.size _ [⟨#[97]⟩] A0 L0.length c0 L0 rfl OC.out rfl rfl M0.out Rd0.out hla HSz.out ?_)
  intro v3 wc own3 hbc
  rw [← HP.out] at own3
  have HBe := Lib.hid (HBd.out.trans (hbc.mono HBc.out.size))
  have HRe := Lib.hid (HRM.out.below ((Below.one wb (.cells #[.string ⟨#[97]⟩] 9)).trans hbc))
  obtain ⟨AP, cP, rfl, -, -, hAP, hrP⟩ := own3.rd
  have HQ1 := Lib.hid (HQa.out AP cP wc hAP hrP)
  clear own3 hbc hAP hrP OC Rd0 HSz HBd HP HRM HQa HBc
  go_wp2_with fail
  refine HQ1.out.mono ?_
  rintro e wd ⟨rfl, hbd⟩
  have HBf := Lib.hid (HBe.out.trans (hbd.mono HBe.out.size))
  have HRf := Lib.hid (HRe.out.below hbd)
  clear hbd HBe HRe HQ1
  cases b0
  · clear HQz HQM
    go_wp2_with ((with_reducible refine (HQ.out wd HBf.out).mono ?_); rintro e we ⟨rfl, hbe⟩)
    go_ret
    exact ⟨rfl, HBf.out.trans (hbe.mono HBf.out.size)⟩
  · have H3 := Lib.hid (HQz.out rfl)
    have H4 := Lib.hid (HQM.out rfl)
    clear HQz HQM
    go_wp2_with fail
    refine (HQ.out wd HBf.out).mono ?_
    rintro e we ⟨rfl, hbe⟩
    have HBg := Lib.hid (HBf.out.trans (hbe.mono HBf.out.size))
    have HRg := Lib.hid (HRf.out.below hbe)
    clear hbe HBf HRf HQ
    go_wp2_with fail
    refine (H3.out we HBg.out).mono ?_
    rintro e wf ⟨rfl, hbf⟩
    have HBh := Lib.hid (HBg.out.trans (hbf.mono HBg.out.size))
    have HRh := Lib.hid (HRg.out.below hbf)
    clear hbf HBg HRg H3
    go_wp2_with fail
    refine (H4.out AM cM _ HAM.out HRh.out).mono ?_
    rintro e wg ⟨rfl, hbg⟩
    have HBi := Lib.hid (HBh.out.trans (hbg.mono HBh.out.size))
    clear hbg HBh HRh
    go_wp2
    go_ret
    exact ⟨rfl, HBi.out⟩

set_option maxRecDepth 100000 in
set_option linter.unusedVariables false in
theorem fnQueryDeeper_lifted (os : Os) (started : os.Started) (H : Type) (enc : TypeId × Value → H) :
    ReturnsInHanded {} Tryd.checked os 4 .any (fun w args => (Rows.fnQueryDeeperSpec.pre enc Tryd.prog Tryd.f4 Rows.fnQueryDeeperRow.domain false w args ∧ laidMetH Tryd.prog Rows.fnQueryDeeperRow.laid w) ∧ sizedMet enc Tryd.prog Tryd.f4 (OpenSpec.ofChange Rows.fnQueryDeeperSpec) false w args) (Rows.fnQueryDeeperSpec.post enc Tryd.prog Tryd.f4 false true false false) := by
  refine returnsInHanded_of_change_and (C := Tryd.checked) (X := fun w _ => laidMetH Tryd.prog Rows.fnQueryDeeperRow.laid w) (fun _ _ _ hh h => h.of_heap hh) own started (by kernel_rfl) Tryd.func4
    (ChangeSpec.witness_shaped (enc := enc) (C := Tryd.checked) (os := os) (X := fun w _ => laidMetH Tryd.prog Rows.fnQueryDeeperRow.laid w) false (World.laidAll Tryd.prog os Rows.fnQueryDeeperRow.laid) #[.slice none 0 0, .slice none 0 0, .bool false, .string ByteArray.empty, .string ByteArray.empty] 8 (World.laidAll_os _ _ _)
      (World.shaped_of_ZipB (by kernel_rfl) (by kernel_rfl)) (by kernel_rfl) (by kernel_rfl) (by kernel_rfl)
      (by rw [MakeChecks.laidMetH_plain _ _ _ (by kernel_rfl)]; exact laidMet_laidAll _ (by kernel_rfl) (by kernel_rfl))) ?_
  intro W base args ds gs before hval0 hW hcnd _ hL _
  have hval : ∀ (j : Nat) t v, Tryd.f4.params[j]? = some t → args[j]? = some v → Value.okWide Tryd.prog W .any base t v := hval0
  have hW' := hW
  obtain ⟨p, q, hA0, hV, rfl, hfz, hnd⟩ := hW
  have hA : DataW.TrodAll enc Tryd.prog W 0 (fun _ => true) true Tryd.f4.params.toList args.toList ds p := hA0
  rw [Tryd.params4] at hA hval
  obtain ⟨v0, vs0, d0, ds0, p0, q0, hargs, rfl, rfl, h0, r0⟩ := trodAll_cons hA
  obtain ⟨v1, vs1, d1, ds1, p1, q1, rfl, rfl, rfl, h1, r1⟩ := trodAll_cons r0
  obtain ⟨v2, vs2, d2, ds2, p2, q2, rfl, rfl, rfl, h2, r2⟩ := trodAll_cons r1
  obtain ⟨v3, vs3, d3, ds3, p3, q3, rfl, rfl, rfl, h3, r3⟩ := trodAll_cons r2
  obtain ⟨v4, vs4, d4, ds4, p4, q4, rfl, rfl, rfl, h4, r4⟩ := trodAll_cons r3
  obtain ⟨rfl, rfl, rfl⟩ := trodAll_nil r4
  obtain rfl : args = #[v0, v1, v2, v3, v4] := by cases args; simp_all
  obtain ⟨rfl, rfl⟩ := trodVars_none hV
  have k0 := h0
  have lt0 : ∀ x ∈ p0, x.block < W.heap.size := by obtain ⟨m, hm⟩ := k0; exact DataW.trod_lt m _ _ _ hm
  obtain ⟨A0, n0, c0, bs0, rfl, w0⟩ := opened_strings (hval 0 24 v0 rfl rfl) h0
  have k1 := h1
  have lt1 : ∀ x ∈ p1, x.block < W.heap.size := by obtain ⟨m, hm⟩ := k1; exact DataW.trod_lt m _ _ _ hm
  obtain ⟨A1, n1, c1, bs1, rfl, w1⟩ := opened_strings (hval 1 24 v1 rfl rfl) h1
  obtain ⟨a2, rfl, rfl, rfl⟩ := open_bool Tryd.underlying4 (hval 2 4 v2 rfl rfl) h2
  obtain ⟨a3, rfl, rfl, rfl, w3⟩ := open_string Tryd.underlying9 (hval 3 9 v3 rfl rfl) h3
  obtain ⟨a4, rfl, rfl, rfl, w4⟩ := open_string Tryd.underlying9 (hval 4 9 v4 rfl rfl) h4
  clear hA0 hval0
  refine (fnQueryDeeper_walk (w := W) A0 n0 c0 bs0 w0 A1 n1 c1 bs1 w1 a2 a3 w3 a4 w4).mono fun e W' ⟨he, bel⟩ => ?_
  subst he
  exact ⟨_, rfl, _, _, _, [], _, [], hW', trodAll_mk1 (shut_bool Tryd.underlying4 _), (trodAll_cons_mk (Below.trod laidOut (by kernel_rfl) (of_decide_eq_true (by kernel_rfl)) k0 bel lt0) (trodAll_cons_mk (Below.trod laidOut (by kernel_rfl) (of_decide_eq_true (by kernel_rfl)) k1 bel lt1) (trodAll_cons_mk (shut_bool Tryd.underlying4 a2) (trodAll_cons_mk (shut_string Tryd.underlying9 w3) (trodAll_cons_mk (shut_string Tryd.underlying9 w4) trodAll_mk0))))), rfl, bel.frame _, fun h => by cases h⟩
theorem fnQueryDeeper_facts : joinedFacts Tryd.prog 4 Tryd.f4 Rows.fnQueryDeeperSpec Rows.fnQueryDeeperRow = true :=
  facts_of rfl head_enter head_lifts head_make rfl rfl (by kernel_rfl) (by kernel_rfl) (by kernel_rfl) (by kernel_rfl) (by kernel_rfl)
set_option maxRecDepth 100000 in
theorem fnQueryDeeper_row : Rows.FnQueryDeeperSaid :=
  OpenClaim.holds_of_wide 4 Tryd.f4 rfl rfl rfl rfl rfl rfl rfl ⟨rfl, rfl, rfl, rfl, rfl⟩ rfl rfl rfl rfl rfl (by kernel_rfl) Tryd.func4 fnQueryDeeper_facts
    (of_decide_eq_true (by kernel_rfl)) (by unfold Func.isWrapper; first | (rw [if_pos (by decide +kernel)]; kernel_rfl) | (rw [if_neg (by decide +kernel)]; exact ⟨rfl, rfl⟩))
    (fun os started H enc _ => fnQueryDeeper_lifted os started H enc)
set_option maxRecDepth 100000 in
theorem fnQueryDeeper_holds : Rows.FnQueryDeeperCardSaid :=
  Claim7.holds_tied_plain_at .later [] [.data, .pinned, .pinned] true (true, "47dc8390ac227de7a865ba6f089e7475486b30b73b4649b8ec8f28900be40170") false fnQueryDeeper_row (fun _ h => by cases h) (by kernel_rfl) (fun _ h => by cases h) fnQueryDeeper_row_tie rfl ⟨rfl, rfl⟩ (by kernel_rfl) rfl
    (fun f fn hf hfn => by
      obtain rfl : f = 4 := Option.some.inj ((show Tryd.prog.funcNamed "loop.example/pub-g03129/laws.FnQueryDeeper" = some 4 by kernel_rfl).symm.trans hf) |>.symm
      obtain rfl : fn = Tryd.f4 := (Option.some.inj (Tryd.func4.symm.trans hfn)).symm
      exact ⟨by kernel_rfl, fun j t ht => by
        rw [Tryd.params4] at ht
        have hm : t ∈ [24, 24, 4, 9, 9] := by simpa using Array.mem_of_getElem? ht
        have hall : ([24, 24, 4, 9, 9].all fun u => !Tryd.prog.wantsStandIn u) = true := by kernel_rfl
        exact (show Tryd.prog.wantsStandIn t = false by simpa using List.all_eq_true.1 hall t hm)⟩)
    (by kernel_rfl)
end Go.Proofs.YtdinnpjplgkffaaDoor
