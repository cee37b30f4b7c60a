/-
  FnSubsetAddress holds: an address that lies in a network lies in each one in which that lies. For every input; no condition.
-/
import Derived.Test.YtgaolfbbfdojjaaK1
namespace Go.Proofs.Ytgaolfbbfdojjaa
open Go.ChangeShapes Go.WideShapes Go.ChangeAt Go.RowKit
open Go.ChangeMaps (open_string shut_string)

theorem NetGood.toG2 {N : NetA} (h : NetGood N.ad N.ms) : NetG N := h.toG h.bounds.1
theorem TwoR.held {w W : World} {N K : NetA} (h : TwoR w N K W) : W.cell? ⟨w.heap.size, 0, none⟩ = some (.slice N.A N.ad.length N.c) ∧ W.cell? ⟨w.heap.size, 1, none⟩ = some (.slice N.M N.ms.length N.d) ∧ W.cell? ⟨w.heap.size + 1, 0, none⟩ = some (.slice K.A K.ad.length K.c) ∧ W.cell? ⟨w.heap.size + 1, 1, none⟩ = some (.slice K.M K.ms.length K.d) ∧ TwoR w N K W :=
  ⟨h.cells.1.1, h.cells.1.2, h.cells.2.1, h.cells.2.2, h⟩
theorem one_row (W : World) (N : NetA) (h : NetR W N) : NetsR (W.alloc (.cells #[.slice N.A N.ad.length N.c, .slice N.M N.ms.length N.d] 24)) (some ⟨W.heap.size, 0, none⟩) [N] := fun j hj => by
  obtain rfl : j = 0 := by simpa using hj
  have hb := blk_new W (.cells #[.slice N.A N.ad.length N.c, .slice N.M N.ms.length N.d] 24)
  refine ⟨_, rfl, ?_, ?_, h.below (Below.one _ _)⟩
  · rw [show (⟨W.heap.size, 0, none⟩ : Addr).add (0 * 2) = ⟨W.heap.size, 0, none⟩ by simp [Addr.add], blk_cell hb]; rfl
  · rw [show (⟨W.heap.size, 0, none⟩ : Addr).add (0 * 2 + 1) = ⟨W.heap.size, 1, none⟩ by simp [Addr.add], blk_cell hb]; rfl
theorem exB (p : Prop) : ∃ b : Bool, b = true ↔ p := by
  by_cases h : p
  · exact ⟨true, by simp [h]⟩
  · exact ⟨false, by simp [h]⟩
/-- Two boxed networks and an address. -/
def ThreeR (w : World) (N K : NetA) (A : Option Addr) (l : List UInt8) (W : World) : Prop := TwoR w N K W ∧ Rd W A (u8s l)
theorem ThreeR.next {w W W2 : World} {N K : NetA} {A : Option Addr} {l : List UInt8} (h : ThreeR w N K A l W) (k : Below W.heap.size W W2) : ThreeR w N K A l W2 := ⟨h.1.next k, h.2.below k⟩
set_option maxHeartbeats 4000000 in
theorem fnSubsetAddress_walk {w : World} (N0 : NetA) (w0 : NetR w N0) (N1 : NetA) (w1 : NetR w N1) (A2 : Option Addr) (n2 c2 : Nat) (l : List UInt8) (w2 : n2 = l.length ∧ n2 ≤ c2 ∧ c2 ≤ maxLen ∧ (A2 = none → c2 = 0) ∧ Rd w A2 (u8s l)) :
    Calls Try.prog 6 #[netV N0, netV N1, .slice A2 n2 c2] w (Ret (.bool true) w) := by
  obtain ⟨rfl, m2, m3, m4, r2⟩ := w2
  unfold maxLen at m3
  have M4 := Lib.hid m4
  have m0 : N0.ad.length ≤ 9223372036854775807 ∧ N0.ms.length ≤ 9223372036854775807 := by
    have := w0.2.2; unfold maxLen at this; omega
  have m1 : N1.ad.length ≤ 9223372036854775807 ∧ N1.ms.length ≤ 9223372036854775807 := by
    have := w1.2.2; unfold maxLen at this; omega
  have ht0 : Hid (ThreeR w N0 N1 A2 l ((w.alloc (.cells #[.slice N0.A N0.ad.length N0.c, .slice N0.M N0.ms.length N0.d] 24)).alloc (.cells #[.slice N1.A N1.ad.length N1.c, .slice N1.M N1.ms.length N1.d] 24))) := ⟨TwoR.start w0 w1, r2.below (TwoR.start w0 w1).2.2.1⟩
  have HF0 : ∀ b W, (b = true ↔ (N0.ad.length ≤ 2147483647 ∧ N0.ms.length ≤ 2147483647)) → Calls Try.prog 8 #[netV N0] W (Ret (.bool b) W) := fun b W hb => fits2_any N0 m0.1 m0.2 W b hb
  have HF1 : ∀ b W, (b = true ↔ (N1.ad.length ≤ 2147483647 ∧ N1.ms.length ≤ 2147483647)) → Calls Try.prog 8 #[netV N1] W (Ret (.bool b) W) := fun b W hb => fits2_any N1 m1.1 m1.2 W b hb
  clear w0 w1 r2 m4
  by_cases g0 : N0.ad.length ≤ 2147483647 ∧ N0.ms.length ≤ 2147483647
  rotate_left
  · have H0 := Lib.hid (fun W => HF0 false W ⟨fun e => (by cases e), fun e => absurd e g0⟩)
    clear HF0 HF1 g0 m0 m1
    unfold netV at *
    go_enter Try.func6, Try.ntmps6
    go_wp2_with ((with_reducible refine (H0.out _).mono ?_); rintro e w1 ⟨rfl, hb1⟩)
    go_ret
    exact ⟨rfl, (ht0.out.next hb1).1.2.2.1⟩
  have H0 := Lib.hid (fun W => HF0 true W ⟨fun _ => g0, fun _ => rfl⟩)
  by_cases g1 : N1.ad.length ≤ 2147483647 ∧ N1.ms.length ≤ 2147483647
  rotate_left
  · have H1 := Lib.hid (fun W => HF1 false W ⟨fun e => (by cases e), fun e => absurd e g1⟩)
    clear HF0 HF1 g0 g1 m0 m1
    unfold netV at *
    go_enter Try.func6, Try.ntmps6
    go_wp2_with fail
    refine (H0.out _).mono ?_
    rintro e w1 ⟨rfl, hb1⟩
    have ht1 := Lib.hid (ht0.out.next hb1)
    try clear k0 k1 k2 k3
    obtain ⟨⟨k0, k1⟩, k2, k3⟩ := ht1.out.1.cells
    clear hb1
    go_wp2_with ((with_reducible refine (H1.out _).mono ?_); rintro e w2 ⟨rfl, hb2⟩)
    go_ret
    exact ⟨rfl, (ht1.out.next hb2).1.2.2.1⟩
  have H1 := Lib.hid (fun W => HF1 true W ⟨fun _ => g1, fun _ => rfl⟩)
  by_cases gl : 2147483647 < l.length
  · clear HF0 HF1 g0 g1 m0 m1
    unfold netV at *
    go_enter Try.func6, Try.ntmps6
    go_wp2_with fail
    refine (H0.out _).mono ?_
    rintro e w1 ⟨rfl, hb1⟩
    have ht1 := Lib.hid (ht0.out.next hb1)
    try clear k0 k1 k2 k3
    obtain ⟨⟨k0, k1⟩, k2, k3⟩ := ht1.out.1.cells
    clear hb1
    go_wp2_with ((with_reducible refine (H1.out _).mono ?_); rintro e w2 ⟨rfl, hb2⟩)
    go_ret
    exact ⟨rfl, (ht1.out.next hb2).1.2.2.1⟩
  by_cases gb : 1048576 < l.length
  · have HB := Lib.hid (fun W => beyond1 l.length true (by simpa using gb) W)
    have gl' : l.length ≤ 2147483647 := by omega
    clear HF0 HF1 g0 g1 m0 m1 gb gl
    unfold netV at *
    go_enter Try.func6, Try.ntmps6
    go_wp2_with fail
    refine (H0.out _).mono ?_
    rintro e w1 ⟨rfl, hb1⟩
    have ht1 := Lib.hid (ht0.out.next hb1)
    try clear k0 k1 k2 k3
    obtain ⟨⟨k0, k1⟩, k2, k3⟩ := ht1.out.1.cells
    clear hb1
    go_wp2_with fail
    refine (H1.out _).mono ?_
    rintro e w2 ⟨rfl, hb1⟩
    have ht2 := Lib.hid (ht1.out.next hb1)
    try clear k0 k1 k2 k3
    obtain ⟨⟨k0, k1⟩, k2, k3⟩ := ht2.out.1.cells
    clear hb1
    go_wp2_with (go_at_call 14; refine (HB.out _).mono ?_; rintro e w3 ⟨rfl, rfl⟩)
    go_ret
    exact ⟨rfl, (ht2.out.next (Below.one _ _)).1.2.2.1⟩
  have HB := Lib.hid (fun W => beyond1 l.length false (by simpa using gb) W)
  have hl : l.length ≤ 1048576 := by omega
  clear gl gb
  have HN0 : ∀ b W, ThreeR w N0 N1 A2 l W → (b = true ↔ NetGood N0.ad N0.ms) → Calls Try.prog 9 #[netV N0] W (Ret (.bool b) W) := fun b W h hb => netOk_any N0 W h.1.1 g0.1 g0.2 b hb
  have HN1 : ∀ b W, ThreeR w N0 N1 A2 l W → (b = true ↔ NetGood N1.ad N1.ms) → Calls Try.prog 9 #[netV N1] W (Ret (.bool b) W) := fun b W h hb => netOk_any N1 W h.1.2.1 g1.1 g1.2 b hb
  have HA : ∀ b W, ThreeR w N0 N1 A2 l W → (b = true ↔ AddrOk l) → Calls Try.prog 16 #[.slice A2 l.length c2] W (Ret (.bool b) W) := fun b W h hb => addrOk_any A2 _ c2 l W rfl (by omega) h.2 b hb
  by_cases p0 : NetGood N0.ad N0.ms
  rotate_left
  · have H2 := Lib.hid (fun W h => HN0 false W h ⟨fun e => (by cases e), fun e => absurd e p0⟩)
    clear HF0 HF1 HN0 HN1 HA g0 g1 m0 m1 p0
    unfold netV at *
    go_enter Try.func6, Try.ntmps6
    go_wp2_with fail
    refine (H0.out _).mono ?_
    rintro e w1 ⟨rfl, hb1⟩
    have ht1 := Lib.hid (ht0.out.next hb1)
    try clear k0 k1 k2 k3
    obtain ⟨⟨k0, k1⟩, k2, k3⟩ := ht1.out.1.cells
    clear hb1
    go_wp2_with fail
    refine (H1.out _).mono ?_
    rintro e w2 ⟨rfl, hb1⟩
    have ht2 := Lib.hid (ht1.out.next hb1)
    try clear k0 k1 k2 k3
    obtain ⟨⟨k0, k1⟩, k2, k3⟩ := ht2.out.1.cells
    clear hb1
    go_wp2_with fail
    go_at_call 14
    refine (HB.out _).mono ?_
    rintro e wz ⟨rfl, rfl⟩
    have ht3 := Lib.hid (ht2.out.next (Below.one _ (.cells #[.int .i64 (l.length : Int)] 3)))
    try clear k0 k1 k2 k3
    obtain ⟨⟨k0, k1⟩, k2, k3⟩ := ht3.out.1.cells
    go_wp2_with ((with_reducible refine (H2.out _ ht3.out).mono ?_); rintro e w3 ⟨rfl, hb3⟩)
    go_ret
    exact ⟨rfl, (ht3.out.next hb3).1.2.2.1⟩
  have H2 := Lib.hid (fun W h => HN0 true W h ⟨fun _ => p0, fun _ => rfl⟩)
  by_cases p1 : NetGood N1.ad N1.ms
  rotate_left
  · have H3 := Lib.hid (fun W h => HN1 false W h ⟨fun e => (by cases e), fun e => absurd e p1⟩)
    clear HF0 HF1 HN0 HN1 HA g0 g1 m0 m1 p0 p1
    unfold netV at *
    go_enter Try.func6, Try.ntmps6
    go_wp2_with fail
    refine (H0.out _).mono ?_
    rintro e w1 ⟨rfl, hb1⟩
    have ht1 := Lib.hid (ht0.out.next hb1)
    try clear k0 k1 k2 k3
    obtain ⟨⟨k0, k1⟩, k2, k3⟩ := ht1.out.1.cells
    clear hb1
    go_wp2_with fail
    refine (H1.out _).mono ?_
    rintro e w2 ⟨rfl, hb1⟩
    have ht2 := Lib.hid (ht1.out.next hb1)
    try clear k0 k1 k2 k3
    obtain ⟨⟨k0, k1⟩, k2, k3⟩ := ht2.out.1.cells
    clear hb1
    go_wp2_with fail
    go_at_call 14
    refine (HB.out _).mono ?_
    rintro e wz ⟨rfl, rfl⟩
    have ht3 := Lib.hid (ht2.out.next (Below.one _ (.cells #[.int .i64 (l.length : Int)] 3)))
    try clear k0 k1 k2 k3
    obtain ⟨⟨k0, k1⟩, k2, k3⟩ := ht3.out.1.cells
    go_wp2_with fail
    refine (H2.out _ ht3.out).mono ?_
    rintro e w4 ⟨rfl, hb1⟩
    have ht4 := Lib.hid (ht3.out.next hb1)
    try clear k0 k1 k2 k3
    obtain ⟨⟨k0, k1⟩, k2, k3⟩ := ht4.out.1.cells
    clear hb1
    go_wp2_with ((with_reducible refine (H3.out _ ht4.out).mono ?_); rintro e w5 ⟨rfl, hb5⟩)
    go_ret
    exact ⟨rfl, (ht4.out.next hb5).1.2.2.1⟩
  have H3 := Lib.hid (fun W h => HN1 true W h ⟨fun _ => p1, fun _ => rfl⟩)
  by_cases ga : AddrOk l
  rotate_left
  · have H4 := Lib.hid (fun W h => HA false W h ⟨fun e => (by cases e), fun e => absurd e ga⟩)
    clear HF0 HF1 HN0 HN1 HA g0 g1 m0 m1 p0 p1 ga
    unfold netV at *
    go_enter Try.func6, Try.ntmps6
    go_wp2_with fail
    refine (H0.out _).mono ?_
    rintro e w1 ⟨rfl, hb1⟩
    have ht1 := Lib.hid (ht0.out.next hb1)
    try clear k0 k1 k2 k3
    obtain ⟨⟨k0, k1⟩, k2, k3⟩ := ht1.out.1.cells
    clear hb1
    go_wp2_with fail
    refine (H1.out _).mono ?_
    rintro e w2 ⟨rfl, hb1⟩
    have ht2 := Lib.hid (ht1.out.next hb1)
    try clear k0 k1 k2 k3
    obtain ⟨⟨k0, k1⟩, k2, k3⟩ := ht2.out.1.cells
    clear hb1
    go_wp2_with fail
    go_at_call 14
    refine (HB.out _).mono ?_
    rintro e wz ⟨rfl, rfl⟩
    have ht3 := Lib.hid (ht2.out.next (Below.one _ (.cells #[.int .i64 (l.length : Int)] 3)))
    try clear k0 k1 k2 k3
    obtain ⟨⟨k0, k1⟩, k2, k3⟩ := ht3.out.1.cells
    go_wp2_with fail
    refine (H2.out _ ht3.out).mono ?_
    rintro e w4 ⟨rfl, hb1⟩
    have ht4 := Lib.hid (ht3.out.next hb1)
    try clear k0 k1 k2 k3
    obtain ⟨⟨k0, k1⟩, k2, k3⟩ := ht4.out.1.cells
    clear hb1
    go_wp2_with fail
    refine (H3.out _ ht4.out).mono ?_
    rintro e w5 ⟨rfl, hb1⟩
    have ht5 := Lib.hid (ht4.out.next hb1)
    try clear k0 k1 k2 k3
    obtain ⟨⟨k0, k1⟩, k2, k3⟩ := ht5.out.1.cells
    clear hb1
    go_wp2_with ((with_reducible refine (H4.out _ ht5.out).mono ?_); rintro e w6 ⟨rfl, hb6⟩)
    go_ret
    exact ⟨rfl, (ht5.out.next hb6).1.2.2.1⟩
  have H4 := Lib.hid (fun W h => HA true W h ⟨fun _ => ga, fun _ => rfl⟩)
  obtain ⟨n, hn⟩ := p0.form
  obtain ⟨k, hk⟩ := p1.form
  obtain ⟨s, hs⟩ := exB (SubN (N0.ad, N0.ms) (N1.ad, N1.ms))
  obtain ⟨q1, hq1⟩ := exB (Met [N1] l)
  obtain ⟨q0, hq0⟩ := exB (Met [N0] l)
  have himp : s = true → q1 = true → q0 = true := fun h1 h2 => by
    obtain ⟨N, hN, hi⟩ := hq1.1 h2
    obtain rfl := List.mem_singleton.1 hN
    exact hq0.2 ⟨N0, by simp, hn.trans hk (hs.1 h1) hi⟩
  have HS0 : Hid (∀ W, ThreeR w N0 N1 A2 l W → Calls Try.prog 11 #[netV N0, netV N0] W (Ret (.bool true) W)) := fun W h => implSubset_any N0 N0 W h.1.1 h.1.1 p0.toG2 p0.toG2 p0.2.2.2.1 true ⟨fun _ => (hn.sub hn).2 ⟨rfl, Nat.le_refl _, hn.self⟩, fun _ => rfl⟩
  have HS1 : Hid (∀ W, ThreeR w N0 N1 A2 l W → Calls Try.prog 11 #[netV N0, netV N1] W (Ret (.bool s) W)) := fun W h => implSubset_any N0 N1 W h.1.1 h.1.2.1 p0.toG2 p1.toG2 p1.2.2.2.1 s hs
  have HQ1 : Hid (∀ W, ThreeR w N0 N1 A2 l W → Calls Try.prog 17 #[.slice (some ⟨W.heap.size, 0, none⟩) 1 1, .slice A2 l.length c2] (W.alloc (.cells #[.slice N1.A N1.ad.length N1.c, .slice N1.M N1.ms.length N1.d] 24)) (Ret (.bool q1) (W.alloc (.cells #[.slice N1.A N1.ad.length N1.c, .slice N1.M N1.ms.length N1.d] 24)))) := fun W h =>
    implQueryIP_any _ 1 1 [N1] _ rfl (by simp) (one_row W N1 h.1.2.1) (fun N hN => by rw [List.mem_singleton.1 hN]; exact p1) A2 _ c2 l rfl M4.out (h.2.below (Below.one _ _)) ga q1 hq1
  have HQ0 : Hid (∀ W, ThreeR w N0 N1 A2 l W → Calls Try.prog 17 #[.slice (some ⟨W.heap.size, 0, none⟩) 1 1, .slice A2 l.length c2] (W.alloc (.cells #[.slice N0.A N0.ad.length N0.c, .slice N0.M N0.ms.length N0.d] 24)) (Ret (.bool q0) (W.alloc (.cells #[.slice N0.A N0.ad.length N0.c, .slice N0.M N0.ms.length N0.d] 24)))) := fun W h =>
    implQueryIP_any _ 1 1 [N0] _ rfl (by simp) (one_row W N0 h.1.1) (fun N hN => by rw [List.mem_singleton.1 hN]; exact p0) A2 _ c2 l rfl M4.out (h.2.below (Below.one _ _)) ga q0 hq0
  clear HF0 HF1 HN0 HN1 HA g0 g1 m0 m1 p0 p1 ga hn hk hs hq1 hq0 M4
  unfold netV at *
  cases s
  · clear himp HQ0 HQ1
    go_enter Try.func6, Try.ntmps6
    go_wp2_with fail
    refine (H0.out _).mono ?_
    rintro e w1 ⟨rfl, hb1⟩
    have ht1 := Lib.hid (ht0.out.next hb1)
    try clear k0 k1 k2 k3
    obtain ⟨⟨k0, k1⟩, k2, k3⟩ := ht1.out.1.cells
    clear hb1
    go_wp2_with fail
    refine (H1.out _).mono ?_
    rintro e w2 ⟨rfl, hb1⟩
    have ht2 := Lib.hid (ht1.out.next hb1)
    try clear k0 k1 k2 k3
    obtain ⟨⟨k0, k1⟩, k2, k3⟩ := ht2.out.1.cells
    clear hb1
    go_wp2_with fail
    go_at_call 14
    refine (HB.out _).mono ?_
    rintro e wz ⟨rfl, rfl⟩
    have ht3 := Lib.hid (ht2.out.next (Below.one _ (.cells #[.int .i64 (l.length : Int)] 3)))
    try clear k0 k1 k2 k3
    obtain ⟨⟨k0, k1⟩, k2, k3⟩ := ht3.out.1.cells
    go_wp2_with fail
    refine (H2.out _ ht3.out).mono ?_
    rintro e w4 ⟨rfl, hb1⟩
    have ht4 := Lib.hid (ht3.out.next hb1)
    try clear k0 k1 k2 k3
    obtain ⟨⟨k0, k1⟩, k2, k3⟩ := ht4.out.1.cells
    clear hb1
    go_wp2_with fail
    refine (H3.out _ ht4.out).mono ?_
    rintro e w5 ⟨rfl, hb1⟩
    have ht5 := Lib.hid (ht4.out.next hb1)
    try clear k0 k1 k2 k3
    obtain ⟨⟨k0, k1⟩, k2, k3⟩ := ht5.out.1.cells
    clear hb1
    go_wp2_with fail
    refine (H4.out _ ht5.out).mono ?_
    rintro e w6 ⟨rfl, hb1⟩
    have ht6 := Lib.hid (ht5.out.next hb1)
    try clear k0 k1 k2 k3
    obtain ⟨⟨k0, k1⟩, k2, k3⟩ := ht6.out.1.cells
    clear hb1
    go_wp2_with fail
    refine (HS0.out _ ht6.out).mono ?_
    rintro e w7 ⟨rfl, hb1⟩
    have ht7 := Lib.hid (ht6.out.next hb1)
    try clear k0 k1 k2 k3
    obtain ⟨⟨k0, k1⟩, k2, k3⟩ := ht7.out.1.cells
    clear hb1
    go_wp2_with ((with_reducible refine (HS1.out _ ht7.out).mono ?_); rintro e w8 ⟨rfl, hb8⟩)
    go_ret
    exact ⟨rfl, (ht7.out.next hb8).1.2.2.1⟩
  cases q1
  · clear himp HQ0
    go_enter Try.func6, Try.ntmps6
    go_wp2_with fail
    refine (H0.out _).mono ?_
    rintro e w1 ⟨rfl, hb1⟩
    have ht1 := Lib.hid (ht0.out.next hb1)
    try clear k0 k1 k2 k3
    obtain ⟨⟨k0, k1⟩, k2, k3⟩ := ht1.out.1.cells
    clear hb1
    go_wp2_with fail
    refine (H1.out _).mono ?_
    rintro e w2 ⟨rfl, hb1⟩
    have ht2 := Lib.hid (ht1.out.next hb1)
    try clear k0 k1 k2 k3
    obtain ⟨⟨k0, k1⟩, k2, k3⟩ := ht2.out.1.cells
    clear hb1
    go_wp2_with fail
    go_at_call 14
    refine (HB.out _).mono ?_
    rintro e wz ⟨rfl, rfl⟩
    have ht3 := Lib.hid (ht2.out.next (Below.one _ (.cells #[.int .i64 (l.length : Int)] 3)))
    try clear k0 k1 k2 k3
    obtain ⟨⟨k0, k1⟩, k2, k3⟩ := ht3.out.1.cells
    go_wp2_with fail
    refine (H2.out _ ht3.out).mono ?_
    rintro e w4 ⟨rfl, hb1⟩
    have ht4 := Lib.hid (ht3.out.next hb1)
    try clear k0 k1 k2 k3
    obtain ⟨⟨k0, k1⟩, k2, k3⟩ := ht4.out.1.cells
    clear hb1
    go_wp2_with fail
    refine (H3.out _ ht4.out).mono ?_
    rintro e w5 ⟨rfl, hb1⟩
    have ht5 := Lib.hid (ht4.out.next hb1)
    try clear k0 k1 k2 k3
    obtain ⟨⟨k0, k1⟩, k2, k3⟩ := ht5.out.1.cells
    clear hb1
    go_wp2_with fail
    refine (H4.out _ ht5.out).mono ?_
    rintro e w6 ⟨rfl, hb1⟩
    have ht6 := Lib.hid (ht5.out.next hb1)
    try clear k0 k1 k2 k3
    obtain ⟨⟨k0, k1⟩, k2, k3⟩ := ht6.out.1.cells
    clear hb1
    go_wp2_with fail
    refine (HS0.out _ ht6.out).mono ?_
    rintro e w7 ⟨rfl, hb1⟩
    have ht7 := Lib.hid (ht6.out.next hb1)
    try clear k0 k1 k2 k3
    obtain ⟨⟨k0, k1⟩, k2, k3⟩ := ht7.out.1.cells
    clear hb1
    go_wp2_with fail
    refine (HS1.out _ ht7.out).mono ?_
    rintro e w8 ⟨rfl, hb1⟩
    have ht8 := Lib.hid (ht7.out.next hb1)
    try clear k0 k1 k2 k3
    obtain ⟨⟨k0, k1⟩, k2, k3⟩ := ht8.out.1.cells
    clear hb1
    go_wp2_with ((with_reducible refine (HQ1.out _ ht8.out).mono ?_); rintro e w9 ⟨rfl, hb9⟩)
    go_ret
    exact ⟨rfl, ((ht8.out.next (Below.one _ _)).next hb9).1.2.2.1⟩
  · obtain rfl := himp rfl rfl
    clear himp
    go_enter Try.func6, Try.ntmps6
    go_wp2_with fail
    refine (H0.out _).mono ?_
    rintro e w1 ⟨rfl, hb1⟩
    have ht1 := Lib.hid (ht0.out.next hb1)
    try clear k0 k1 k2 k3
    obtain ⟨⟨k0, k1⟩, k2, k3⟩ := ht1.out.1.cells
    clear hb1
    go_wp2_with fail
    refine (H1.out _).mono ?_
    rintro e w2 ⟨rfl, hb1⟩
    have ht2 := Lib.hid (ht1.out.next hb1)
    try clear k0 k1 k2 k3
    obtain ⟨⟨k0, k1⟩, k2, k3⟩ := ht2.out.1.cells
    clear hb1
    go_wp2_with fail
    go_at_call 14
    refine (HB.out _).mono ?_
    rintro e wz ⟨rfl, rfl⟩
    have ht3 := Lib.hid (ht2.out.next (Below.one _ (.cells #[.int .i64 (l.length : Int)] 3)))
    try clear k0 k1 k2 k3
    obtain ⟨⟨k0, k1⟩, k2, k3⟩ := ht3.out.1.cells
    go_wp2_with fail
    refine (H2.out _ ht3.out).mono ?_
    rintro e w4 ⟨rfl, hb1⟩
    have ht4 := Lib.hid (ht3.out.next hb1)
    try clear k0 k1 k2 k3
    obtain ⟨⟨k0, k1⟩, k2, k3⟩ := ht4.out.1.cells
    clear hb1
    go_wp2_with fail
    refine (H3.out _ ht4.out).mono ?_
    rintro e w5 ⟨rfl, hb1⟩
    have ht5 := Lib.hid (ht4.out.next hb1)
    try clear k0 k1 k2 k3
    obtain ⟨⟨k0, k1⟩, k2, k3⟩ := ht5.out.1.cells
    clear hb1
    go_wp2_with fail
    refine (H4.out _ ht5.out).mono ?_
    rintro e w6 ⟨rfl, hb1⟩
    have ht6 := Lib.hid (ht5.out.next hb1)
    try clear k0 k1 k2 k3
    obtain ⟨⟨k0, k1⟩, k2, k3⟩ := ht6.out.1.cells
    clear hb1
    go_wp2_with fail
    refine (HS0.out _ ht6.out).mono ?_
    rintro e w7 ⟨rfl, hb1⟩
    have ht7 := Lib.hid (ht6.out.next hb1)
    try clear k0 k1 k2 k3
    obtain ⟨⟨k0, k1⟩, k2, k3⟩ := ht7.out.1.cells
    clear hb1
    go_wp2_with fail
    refine (HS1.out _ ht7.out).mono ?_
    rintro e w8 ⟨rfl, hb1⟩
    have ht8 := Lib.hid (ht7.out.next hb1)
    try clear k0 k1 k2 k3
    obtain ⟨⟨k0, k1⟩, k2, k3⟩ := ht8.out.1.cells
    clear hb1
    go_wp2_with fail
    refine (HQ1.out _ ht8.out).mono ?_
    rintro e w9 ⟨rfl, hb9⟩
    have ht9 := Lib.hid ((ht8.out.next (Below.one _ _)).next hb9)
    obtain ⟨⟨k0, k1⟩, k2, k3⟩ := ht9.out.1.cells
    clear hb9
    go_wp2_with ((with_reducible refine (HQ0.out _ ht9.out).mono ?_); rintro e w10 ⟨rfl, hb10⟩)
    go_ret
    exact ⟨rfl, ((ht9.out.next (Below.one _ _)).next hb10).1.2.2.1⟩
set_option maxRecDepth 100000 in
set_option linter.unusedVariables false in
theorem fnSubsetAddress_lifted (os : Os) (started : os.Started) (H : Type) (enc : TypeId × Value → H) :
    ReturnsInHanded {} Try.checked os 6 .any (Rows.fnSubsetAddressSpec.pre6 enc Try.prog Try.f6 Rows.fnSubsetAddressRow.domain false) (Rows.fnSubsetAddressSpec.post enc Try.prog Try.f6 false true false false) := by
  refine returnsInHanded_of_change (C := Try.checked) own started (by kernel_rfl) Try.func6
    (ChangeSpec.witness6 (enc := enc) (C := Try.checked) false ⟨#[], #[.agg #[.slice none 0 0, .slice none 0 0], .agg #[.slice none 0 0, .slice none 0 0], .slice none 0 0], []⟩ 8 (by kernel_rfl) (by kernel_rfl) (by kernel_rfl) (by kernel_rfl)) ?_
  intro W base args ds gs before hval0 hW hcnd _
  have hval : ∀ (j : Nat) t v, Try.f6.params[j]? = some t → args[j]? = some v → Value.okWide Try.prog W .any base t v := hval0
  have hW' := hW
  obtain ⟨p, q, hA0, hV, rfl, hfz, hnd⟩ := hW
  have hA : DataW.TrodAll enc Try.prog W 0 (fun _ => true) true Try.f6.params.toList args.toList ds p := hA0
  rw [Try.params6] at hA hval
  obtain ⟨v0, vs0, d0, ds0, p0, q0, hargs, rfl, rfl, h0, r0⟩ := trodAll_cons hA
  obtain ⟨v1, vs1, d1, ds1, p1, q1, rfl, rfl, rfl, h1, r1⟩ := trodAll_cons r0
  obtain ⟨v2, vs2, d2, ds2, p2, q2, rfl, rfl, rfl, h2, r2⟩ := trodAll_cons r1
  obtain ⟨rfl, rfl, rfl⟩ := trodAll_nil r2
  obtain rfl : args = #[v0, v1, v2] := by cases args; simp_all
  obtain ⟨rfl, rfl⟩ := trodVars_none hV
  have k0 := h0
  have lt0 : ∀ x ∈ p0, x.block < W.heap.size := by obtain ⟨m, hm⟩ := k0; exact DataW.trod_lt m _ _ _ hm
  obtain ⟨N0, rfl, w0⟩ := opened_net (hval 0 24 v0 rfl rfl) h0
  have k1 := h1
  have lt1 : ∀ x ∈ p1, x.block < W.heap.size := by obtain ⟨m, hm⟩ := k1; exact DataW.trod_lt m _ _ _ hm
  obtain ⟨N1, rfl, w1⟩ := opened_net (hval 1 24 v1 rfl rfl) h1
  have k2 := h2
  have lt2 : ∀ x ∈ p2, x.block < W.heap.size := by obtain ⟨m, hm⟩ := k2; exact DataW.trod_lt m _ _ _ hm
  obtain ⟨A2, n2, c2, bs2, rfl, w2⟩ := opened_bytes (hval 2 22 v2 rfl rfl) h2
  clear hA0 hval0
  refine (fnSubsetAddress_walk (w := W) N0 w0 N1 w1 A2 n2 c2 bs2 w2).mono fun e W' ⟨he, bel⟩ => ?_
  subst he
  exact ⟨_, rfl, _, _, _, [], _, [], hW', trodAll_mk1 (shut_bool Try.underlying4 _), (trodAll_cons_mk (Below.trod laidOut (by kernel_rfl) (of_decide_eq_true (by kernel_rfl)) k0 bel lt0) (trodAll_cons_mk (Below.trod laidOut (by kernel_rfl) (of_decide_eq_true (by kernel_rfl)) k1 bel lt1) (trodAll_cons_mk (Below.trod laidOut (by kernel_rfl) (of_decide_eq_true (by kernel_rfl)) k2 bel lt2) trodAll_mk0))), rfl, bel.frame _, fun h => by cases h⟩
theorem fnSubsetAddress_facts : joinedFacts Try.prog 6 Try.f6 Rows.fnSubsetAddressSpec Rows.fnSubsetAddressRow = true :=
  facts_of rfl head_enter head_lifts head_make rfl rfl (by kernel_rfl) (by kernel_rfl) (by kernel_rfl) (by kernel_rfl) (by kernel_rfl)
theorem fnSubsetAddress_over : Rows.fnSubsetAddressRow.holds Try.pinned (OpenSpec.ofChange Rows.fnSubsetAddressSpec) :=
  OpenClaim.holds_of_wide 6 Try.f6 rfl rfl rfl rfl rfl rfl rfl ⟨rfl, rfl, rfl, rfl, rfl⟩ rfl rfl rfl rfl rfl (by kernel_rfl) Try.func6 fnSubsetAddress_facts
    (of_decide_eq_true (by kernel_rfl)) (by unfold Func.isWrapper; first | (rw [if_pos (by decide +kernel)]; kernel_rfl) | (rw [if_neg (by decide +kernel)]; exact ⟨rfl, rfl⟩))
    (fun os started H enc _ => fnSubsetAddress_lifted os started H enc)
theorem fnSubsetAddress_holds : Rows.FnSubsetAddressSaid := fnSubsetAddress_over
end Go.Proofs.Ytgaolfbbfdojjaa
