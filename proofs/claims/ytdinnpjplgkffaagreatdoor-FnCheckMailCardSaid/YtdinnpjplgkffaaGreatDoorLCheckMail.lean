/-
  FnCheckMail holds: an address is refused just where it meets an excluded constraint, or there are permitted ones and it meets none. For every input; no condition of ours. And its tied card.
-/
import Derived.Test.YtdinnpjplgkffaaGreatDoorPLaws
import Derived.Test.YtdinnpjplgkffaaGreatDoorTie
import Derived.Test.YtdinnpjplgkffaaGreatDoorCards
import Derived.LaidMore
import Derived.Lay
import Derived.SevenTiedAt
import Derived.Stop.Joined
namespace Go.Proofs.YtdinnpjplgkffaaGreatDoor
open Go.ChangeShapes Go.WideShapes Go.ChangeAt Go.RowKit
open Go.ChangeMaps (open_string shut_string)

theorem cutBoth_any (s : ByteArray) (hs : s.size ≤ 2147483647) {p q : List UInt8} (h : cutL (bytes s) = some (p, q)) (w : World) : Calls Tryz.prog 8 #[.string s] w (Ret (.tuple #[.string (ofBytes p), .string (ofBytes q)]) w) := by
  have HC := fun W => cut_any s hs W
  rw [h] at HC
  unfold cut3 at HC
  dsimp only at HC
  have H := Lib.hid HC
  clear HC h
  go_enter Tryz.func8, Tryz.ntmps8
  go_wp2_with ((with_reducible refine (H.out _).mono ?_); rintro e w1 ⟨rfl, hb1⟩)
  go_ret2
  exact ⟨rfl, hb1⟩
set_option maxRecDepth 100000 in
set_option maxHeartbeats 8000000 in
theorem fnCheckMail_walk {w : World} (A0 : Option Addr) (n0 c0 : Nat) (L0 : List ByteArray) (t0 : TextsR w A0 n0 c0 L0) (A1 : Option Addr) (n1 c1 : Nat) (L1 : List ByteArray) (t1 : TextsR w A1 n1 c1 L1) (s : ByteArray) (hs0 : s.size ≤ maxLen) :
    Calls Tryz.prog 3 #[.slice A0 n0 c0, .slice A1 n1 c1, .string s] w (Ret (.bool true) w) := by
  have HB0 : Hid (Below w.heap.size w w) := Below.refl _ _
  obtain ⟨rfl, a0, b0, d0, f0, r0⟩ := t0
  have R0 := Lib.hid r0
  have M0 := Lib.hid d0
  have ml0 : L0.length ≤ maxLen := Nat.le_trans a0 b0
  have F0 := Lib.hid (fun b hb W (hW : Below w.heap.size w W) => fits_any A0 _ c0 L0 W b hb rfl ml0 f0 (r0.below hW))
  clear r0 d0 f0
  obtain ⟨rfl, a1, b1, d1, f1, r1⟩ := t1
  have R1 := Lib.hid r1
  have M1 := Lib.hid d1
  have ml1 : L1.length ≤ maxLen := Nat.le_trans a1 b1
  have F1 := Lib.hid (fun b hb W (hW : Below w.heap.size w W) => fits_any A1 _ c1 L1 W b hb rfl ml1 f1 (r1.below hW))
  clear r1 d1 f1
  unfold maxLen at *
  by_cases gf0 : fitsP L0
  rotate_left
  · have HK : Hid (∀ W, Below w.heap.size w W → Calls Tryz.prog 4 #[.slice A0 L0.length c0] W (Ret (.bool false) W)) := fun W hW => F0.out false ⟨fun e => (by cases e), fun e => absurd e gf0⟩ W hW
    go_enter Tryz.func3, Tryz.ntmps3
    go_wp2_with ((with_reducible refine (HK.out _ HB0.out).mono ?_); rintro e wf ⟨rfl, hbf⟩)
    go_ret
    exact ⟨rfl, HB0.out.trans (hbf.mono HB0.out.size)⟩
  have G0 : Hid (∀ W, Below w.heap.size w W → Calls Tryz.prog 4 #[.slice A0 L0.length c0] W (Ret (.bool true) W)) := fun W hW => F0.out true ⟨fun _ => gf0, fun _ => rfl⟩ W hW
  have GF0 := Lib.hid gf0
  clear gf0 F0
  by_cases gf1 : fitsP L1
  rotate_left
  · have HK : Hid (∀ W, Below w.heap.size w W → Calls Tryz.prog 4 #[.slice A1 L1.length c1] W (Ret (.bool false) W)) := fun W hW => F1.out false ⟨fun e => (by cases e), fun e => absurd e gf1⟩ W hW
    go_enter Tryz.func3, Tryz.ntmps3
    go_wp2_with fail
    refine (G0.out _ HB0.out).mono ?_
    rintro e w1 ⟨rfl, hb1⟩
    have HB1 := Lib.hid (HB0.out.trans (hb1.mono HB0.out.size))
    clear hb1 HB0
    go_wp2_with ((with_reducible refine (HK.out _ HB1.out).mono ?_); rintro e wf ⟨rfl, hbf⟩)
    go_ret
    exact ⟨rfl, HB1.out.trans (hbf.mono HB1.out.size)⟩
  have G1 : Hid (∀ W, Below w.heap.size w W → Calls Tryz.prog 4 #[.slice A1 L1.length c1] W (Ret (.bool true) W)) := fun W hW => F1.out true ⟨fun _ => gf1, fun _ => rfl⟩ W hW
  have GF1 := Lib.hid gf1
  clear gf1 F1
  by_cases g_s : 2147483647 < s.size
  · have x_s : decide (2147483647 < (s.size : Int)) = true := by rw [decide_eq_true_eq]; omega
    go_enter Tryz.func3, Tryz.ntmps3
    go_wp2_with fail
    refine (G0.out _ HB0.out).mono ?_
    rintro e w1 ⟨rfl, hb1⟩
    have HB1 := Lib.hid (HB0.out.trans (hb1.mono HB0.out.size))
    clear hb1 HB0
    go_wp2_with fail
    refine (G1.out _ HB1.out).mono ?_
    rintro e w2 ⟨rfl, hb1⟩
    have HB2 := Lib.hid (HB1.out.trans (hb1.mono HB1.out.size))
    clear hb1 HB1
    go_wp2
    go_ret
    exact ⟨rfl, HB2.out⟩
  have s_s : s.size ≤ 2147483647 := by omega
  have x_s : decide (2147483647 < (s.size : Int)) = false := by rw [decide_eq_false_iff_not]; omega
  clear g_s
  have S0 : Hid (∀ W, Below w.heap.size w W → Calls Tryz.prog 6 #[.slice A0 L0.length c0] W (Ret (.int .i64 (sumB L0)) W)) := fun W hW => sum_any A0 _ c0 L0 W GF0.out rfl (R0.out.below hW)
  have S1 : Hid (∀ W, Below w.heap.size w W → Calls Tryz.prog 6 #[.slice A1 L1.length c1] W (Ret (.int .i64 (sumB L1)) W)) := fun W hW => sum_any A1 _ c1 L1 W GF1.out rfl (R1.out.below hW)
  by_cases gb : ((1048576 < sumB L0) ∨ 1048576 < sumB L1) ∨ 1048576 < s.size
  · have HB := Lib.hid (fun W => beyond3 (sumB L0) (sumB L1) (s.size) true (by simpa using gb) W)
    clear gb
    go_enter Tryz.func3, Tryz.ntmps3
    go_wp2_with fail
    refine (G0.out _ HB0.out).mono ?_
    rintro e w1 ⟨rfl, hb1⟩
    have HB1 := Lib.hid (HB0.out.trans (hb1.mono HB0.out.size))
    clear hb1 HB0
    go_wp2_with fail
    refine (G1.out _ HB1.out).mono ?_
    rintro e w2 ⟨rfl, hb1⟩
    have HB2 := Lib.hid (HB1.out.trans (hb1.mono HB1.out.size))
    clear hb1 HB1
    go_wp2_with fail
    refine (S0.out _ HB2.out).mono ?_
    rintro e w3 ⟨rfl, hb1⟩
    have HB3 := Lib.hid (HB2.out.trans (hb1.mono HB2.out.size))
    clear hb1 HB2
    go_wp2_with fail
    refine (S1.out _ HB3.out).mono ?_
    rintro e w4 ⟨rfl, hb1⟩
    have HB4 := Lib.hid (HB3.out.trans (hb1.mono HB3.out.size))
    clear hb1 HB3
    go_wp2_with (go_at_call 5; refine (HB.out _).mono ?_; rintro e wz ⟨rfl, rfl⟩)
    go_ret
    exact ⟨rfl, HB4.out.alloc HB4.out.size _⟩
  have HB := Lib.hid (fun W => beyond3 (sumB L0) (sumB L1) (s.size) false (by simpa using gb) W)
  clear gb
  by_cases gm0 : 50 < L0.length
  · have xm0 : decide (50 < (L0.length : Int)) = true := by rw [decide_eq_true_eq]; omega
    go_enter Tryz.func3, Tryz.ntmps3
    go_wp2_with fail
    refine (G0.out _ HB0.out).mono ?_
    rintro e w1 ⟨rfl, hb1⟩
    have HB1 := Lib.hid (HB0.out.trans (hb1.mono HB0.out.size))
    clear hb1 HB0
    go_wp2_with fail
    refine (G1.out _ HB1.out).mono ?_
    rintro e w2 ⟨rfl, hb1⟩
    have HB2 := Lib.hid (HB1.out.trans (hb1.mono HB1.out.size))
    clear hb1 HB1
    go_wp2_with fail
    refine (S0.out _ HB2.out).mono ?_
    rintro e w3 ⟨rfl, hb1⟩
    have HB3 := Lib.hid (HB2.out.trans (hb1.mono HB2.out.size))
    clear hb1 HB2
    go_wp2_with fail
    refine (S1.out _ HB3.out).mono ?_
    rintro e w4 ⟨rfl, hb1⟩
    have HB4 := Lib.hid (HB3.out.trans (hb1.mono HB3.out.size))
    clear hb1 HB3
    go_wp2_with fail
    go_at_call 5
    refine (HB.out _).mono ?_
    rintro e wz ⟨rfl, rfl⟩
    have HB5 := Lib.hid (HB4.out.alloc HB4.out.size (.cells #[.int .i64 (sumB L0 : Int), .int .i64 (sumB L1 : Int), .int .i64 (s.size : Int)] 3))
    clear HB4
    go_wp2
    go_ret
    exact ⟨rfl, HB5.out⟩
  have hm0 : L0.length ≤ 50 := by omega
  have xm0 : decide (50 < (L0.length : Int)) = false := by rw [decide_eq_false_iff_not]; omega
  clear gm0
  by_cases gm1 : 50 < L1.length
  · have xm1 : decide (50 < (L1.length : Int)) = true := by rw [decide_eq_true_eq]; omega
    go_enter Tryz.func3, Tryz.ntmps3
    go_wp2_with fail
    refine (G0.out _ HB0.out).mono ?_
    rintro e w1 ⟨rfl, hb1⟩
    have HB1 := Lib.hid (HB0.out.trans (hb1.mono HB0.out.size))
    clear hb1 HB0
    go_wp2_with fail
    refine (G1.out _ HB1.out).mono ?_
    rintro e w2 ⟨rfl, hb1⟩
    have HB2 := Lib.hid (HB1.out.trans (hb1.mono HB1.out.size))
    clear hb1 HB1
    go_wp2_with fail
    refine (S0.out _ HB2.out).mono ?_
    rintro e w3 ⟨rfl, hb1⟩
    have HB3 := Lib.hid (HB2.out.trans (hb1.mono HB2.out.size))
    clear hb1 HB2
    go_wp2_with fail
    refine (S1.out _ HB3.out).mono ?_
    rintro e w4 ⟨rfl, hb1⟩
    have HB4 := Lib.hid (HB3.out.trans (hb1.mono HB3.out.size))
    clear hb1 HB3
    go_wp2_with fail
    go_at_call 5
    refine (HB.out _).mono ?_
    rintro e wz ⟨rfl, rfl⟩
    have HB5 := Lib.hid (HB4.out.alloc HB4.out.size (.cells #[.int .i64 (sumB L0 : Int), .int .i64 (sumB L1 : Int), .int .i64 (s.size : Int)] 3))
    clear HB4
    go_wp2
    go_ret
    exact ⟨rfl, HB5.out⟩
  have hm1 : L1.length ≤ 50 := by omega
  have xm1 : decide (50 < (L1.length : Int)) = false := by rw [decide_eq_false_iff_not]; omega
  clear gm1
  by_cases mb : mboxOk (bytes s)
  rotate_left
  · have HK : Hid (∀ W, Below w.heap.size w W → Calls Tryz.prog 7 #[.string s] W (Ret (.bool false) W)) := fun W _ => mboxOk_any s s_s false ⟨fun e => (by cases e), fun e => absurd e mb⟩ W
    clear mb
    go_enter Tryz.func3, Tryz.ntmps3
    go_wp2_with fail
    refine (G0.out _ HB0.out).mono ?_
    rintro e w1 ⟨rfl, hb1⟩
    have HB1 := Lib.hid (HB0.out.trans (hb1.mono HB0.out.size))
    clear hb1 HB0
    go_wp2_with fail
    refine (G1.out _ HB1.out).mono ?_
    rintro e w2 ⟨rfl, hb1⟩
    have HB2 := Lib.hid (HB1.out.trans (hb1.mono HB1.out.size))
    clear hb1 HB1
    go_wp2_with fail
    refine (S0.out _ HB2.out).mono ?_
    rintro e w3 ⟨rfl, hb1⟩
    have HB3 := Lib.hid (HB2.out.trans (hb1.mono HB2.out.size))
    clear hb1 HB2
    go_wp2_with fail
    refine (S1.out _ HB3.out).mono ?_
    rintro e w4 ⟨rfl, hb1⟩
    have HB4 := Lib.hid (HB3.out.trans (hb1.mono HB3.out.size))
    clear hb1 HB3
    go_wp2_with fail
    go_at_call 5
    refine (HB.out _).mono ?_
    rintro e wz ⟨rfl, rfl⟩
    have HB5 := Lib.hid (HB4.out.alloc HB4.out.size (.cells #[.int .i64 (sumB L0 : Int), .int .i64 (sumB L1 : Int), .int .i64 (s.size : Int)] 3))
    clear HB4
    go_wp2_with ((with_reducible refine (HK.out _ HB5.out).mono ?_); rintro e wf ⟨rfl, hbf⟩)
    go_ret
    exact ⟨rfl, HB5.out.trans (hbf.mono HB5.out.size)⟩
  have KM : Hid (∀ W, Below w.heap.size w W → Calls Tryz.prog 7 #[.string s] W (Ret (.bool true) W)) := fun W _ => mboxOk_any s s_s true ⟨fun _ => mb, fun _ => rfl⟩ W
  obtain ⟨p, q, hcut, hp, hq⟩ := mb
  obtain ⟨a, ha⟩ : ∃ a, a = ofBytes p := ⟨_, rfl⟩
  obtain ⟨d, hd⟩ : ∃ d, d = ofBytes q := ⟨_, rfl⟩
  have ea : bytes a = p := by rw [ha, bytes_ofBytes]
  have ed : bytes d = q := by rw [hd, bytes_ofBytes]
  have HCut : Hid (∀ W, Below w.heap.size w W → Calls Tryz.prog 8 #[.string s] W (Ret (.tuple #[.string a, .string d]) W)) := fun W _ => by
    have h := cutBoth_any s s_s hcut W
    rw [← ha, ← hd] at h
    exact h
  have hpl := (localOk_locL hp).2
  have hql := nameOk_size hq
  have hsz : s.size ≤ 1000 := by
    have := congrArg List.length (cutL_some.1 hcut).1
    rw [bytes_length, List.length_append, List.length_cons] at this
    omega
  have s_d : d.size ≤ 2147483647 := by rw [← bytes_length, ed]; omega
  have hpm : parseM (bytes s) = some (p, q) := by rw [(cutL_some.1 hcut).1]; exact parseM_local (localOk_locL hp).1 hq
  have HO0 : Hid (∀ W, Below w.heap.size w W → Calls Tryz.prog 9 #[.slice A0 L0.length c0, .string a, .string d] W (SaysPost (L0.map fun y => saysM y a d) W)) := fun W hW => lawsMails_any A0 _ c0 L0 a d W rfl GF0.out s_d (R0.out.below hW)
  have HO1 : Hid (∀ W, Below w.heap.size w W → Calls Tryz.prog 9 #[.slice A1 L1.length c1, .string a, .string d] W (SaysPost (L1.map fun y => saysM y a d) W)) := fun W hW => lawsMails_any A1 _ c1 L1 a d W rfl GF1.out s_d (R1.out.below hW)
  have HQ : Hid (¬ (2 : Int) ∈ (L0.map fun y => saysM y a d) → ¬ (2 : Int) ∈ (L1.map fun y => saysM y a d) → ∃ r, ruleV (L0.map fun y => saysM y a d) (L1.map fun y => saysM y a d) = codeI r ∧ ∀ W, Below w.heap.size w W → Calls Tryz.prog 12 #[.slice A0 L0.length c0, .slice A1 L1.length c1, .string s] W (Ret (.int .i64 (codeI r)) W)) := fun u0 u1 => by
    obtain ⟨b0, hb0⟩ := exB (MetM L0 (bytes a) (lowL (bytes d)))
    obtain ⟨b1, hb1⟩ := exB (MetM L1 (bytes a) (lowL (bytes d)))
    have hnd : nameOk (bytes d) = true := by rw [ed]; exact hq
    refine ⟨_, refB_ruleM u0 u1 hnd hb0 hb1, fun W hW => ?_⟩
    rw [ea, ed] at hb0 hb1
    exact implCheckMail_any A0 A1 _ c0 _ c1 L0 L1 s p q W hsz hpm (by omega) hq rfl rfl (by omega) (by omega) M0.out M1.out (R0.out.below hW) (R1.out.below hW) (mails_of u0) (mails_of u1) b0 b1 hb0 hb1 _ rfl
  have hX0 : (L0.map fun y => saysM y a d).length ≤ 2147483647 := by rw [List.length_map]; omega
  have hX1 : (L1.map fun y => saysM y a d).length ≤ 2147483647 := by rw [List.length_map]; omega
  generalize (L0.map fun y => saysM y a d) = X0 at HO0 HQ hX0
  generalize (L1.map fun y => saysM y a d) = X1 at HO1 HQ hX1
  have HC0 : Hid (∀ b, (b = true ↔ (2 : Int) ∈ X0) → ∀ A c W, Rd W A (ints X0) → Calls Tryz.prog 10 #[.slice A X0.length c, .int .i64 2] W (SameE (.bool b) W)) := fun b hb A c W h => containsI_any A _ c X0 2 W rfl hX0 h b hb
  have HC1 : Hid (∀ b, (b = true ↔ (2 : Int) ∈ X1) → ∀ A c W, Rd W A (ints X1) → Calls Tryz.prog 10 #[.slice A X1.length c, .int .i64 2] W (SameE (.bool b) W)) := fun b hb A c W h => containsI_any A _ c X1 2 W rfl hX1 h b hb
  have HRule : Hid (∀ A B c k W, Rd W A (ints X0) → Rd W B (ints X1) → Calls Tryz.prog 13 #[.slice A X0.length c, .slice B X1.length k] W (SameE (.int .i64 (ruleV X0 X1)) W)) := fun A B c k W h0 h1 => rule_any A B _ _ c k X0 X1 W rfl rfl hX0 hX1 h0 h1
  have HAns : Hid (∀ r W, Calls Tryz.prog 11 #[.int .i64 (codeI r), .int .i64 (codeI r)] W (SameE (.bool true) W)) := fun r W => by
    have h := answered_any (codeI r) (codeI r) W
    rw [show answerB (codeI r) (codeI r) = true by cases r <;> rfl] at h
    exact h
  clear hcut hp hq ha hd ea ed hpl hql hpm hsz
  by_cases h0 : (2 : Int) ∈ X0
  · have HT := Lib.hid (HC0.out true ⟨fun _ => h0, fun _ => rfl⟩)
    clear HQ HC0 HC1 HRule HAns h0
    go_enter Tryz.func3, Tryz.ntmps3
    go_wp2_with fail
    refine (G0.out _ HB0.out).mono ?_
    rintro e w1 ⟨rfl, hb1⟩
    have HB1 := Lib.hid (HB0.out.trans (hb1.mono HB0.out.size))
    clear hb1 HB0
    go_wp2_with fail
    refine (G1.out _ HB1.out).mono ?_
    rintro e w2 ⟨rfl, hb1⟩
    have HB2 := Lib.hid (HB1.out.trans (hb1.mono HB1.out.size))
    clear hb1 HB1
    go_wp2_with fail
    refine (S0.out _ HB2.out).mono ?_
    rintro e w3 ⟨rfl, hb1⟩
    have HB3 := Lib.hid (HB2.out.trans (hb1.mono HB2.out.size))
    clear hb1 HB2
    go_wp2_with fail
    refine (S1.out _ HB3.out).mono ?_
    rintro e w4 ⟨rfl, hb1⟩
    have HB4 := Lib.hid (HB3.out.trans (hb1.mono HB3.out.size))
    clear hb1 HB3
    go_wp2_with fail
    go_at_call 5
    refine (HB.out _).mono ?_
    rintro e wz ⟨rfl, rfl⟩
    have HB5 := Lib.hid (HB4.out.alloc HB4.out.size (.cells #[.int .i64 (sumB L0 : Int), .int .i64 (sumB L1 : Int), .int .i64 (s.size : Int)] 3))
    clear HB4
    go_wp2_with fail
    refine (KM.out _ HB5.out).mono ?_
    rintro e w6 ⟨rfl, hb1⟩
    have HB6 := Lib.hid (HB5.out.trans (hb1.mono HB5.out.size))
    clear hb1 HB5
    go_wp2_with fail
    refine (HCut.out _ HB6.out).mono ?_
    rintro e w7 ⟨rfl, hb1⟩
    have HB7 := Lib.hid (HB6.out.trans (hb1.mono HB6.out.size))
    clear hb1 HB6
    go_wp2_with fail
    refine (HO0.out _ HB7.out).mono ?_
    rintro e wa ⟨C0, k0, rfl, hrd, hba⟩
    have HBa := Lib.hid (HB7.out.trans (hba.mono HB7.out.size))
    have HRa := Lib.hid hrd
    clear hba hrd
    go_wp2_with fail
    refine (HO1.out _ HBa.out).mono ?_
    rintro e wb ⟨C1, k1, rfl, hrd, hbb⟩
    have HBb := Lib.hid (HBa.out.trans (hbb.mono HBa.out.size))
    have HRx := Lib.hid (HRa.out.below hbb)
    have HRy := Lib.hid hrd
    clear hbb hrd HRa HBa
    have HCw := Lib.hid (HT.out C0 k0 wb HRx.out)
    go_wp2_with ((with_reducible refine HCw.out.mono ?_); rintro e wc ⟨rfl, rfl⟩)
    go_ret
    exact ⟨rfl, HBb.out⟩
  by_cases h1 : (2 : Int) ∈ X1
  · have HT0 := Lib.hid (HC0.out false ⟨fun e => (by cases e), fun e => absurd e h0⟩)
    have HT1 := Lib.hid (HC1.out true ⟨fun _ => h1, fun _ => rfl⟩)
    clear HQ HC0 HC1 HRule HAns h0 h1
    go_enter Tryz.func3, Tryz.ntmps3
    go_wp2_with fail
    refine (G0.out _ HB0.out).mono ?_
    rintro e w1 ⟨rfl, hb1⟩
    have HB1 := Lib.hid (HB0.out.trans (hb1.mono HB0.out.size))
    clear hb1 HB0
    go_wp2_with fail
    refine (G1.out _ HB1.out).mono ?_
    rintro e w2 ⟨rfl, hb1⟩
    have HB2 := Lib.hid (HB1.out.trans (hb1.mono HB1.out.size))
    clear hb1 HB1
    go_wp2_with fail
    refine (S0.out _ HB2.out).mono ?_
    rintro e w3 ⟨rfl, hb1⟩
    have HB3 := Lib.hid (HB2.out.trans (hb1.mono HB2.out.size))
    clear hb1 HB2
    go_wp2_with fail
    refine (S1.out _ HB3.out).mono ?_
    rintro e w4 ⟨rfl, hb1⟩
    have HB4 := Lib.hid (HB3.out.trans (hb1.mono HB3.out.size))
    clear hb1 HB3
    go_wp2_with fail
    go_at_call 5
    refine (HB.out _).mono ?_
    rintro e wz ⟨rfl, rfl⟩
    have HB5 := Lib.hid (HB4.out.alloc HB4.out.size (.cells #[.int .i64 (sumB L0 : Int), .int .i64 (sumB L1 : Int), .int .i64 (s.size : Int)] 3))
    clear HB4
    go_wp2_with fail
    refine (KM.out _ HB5.out).mono ?_
    rintro e w6 ⟨rfl, hb1⟩
    have HB6 := Lib.hid (HB5.out.trans (hb1.mono HB5.out.size))
    clear hb1 HB5
    go_wp2_with fail
    refine (HCut.out _ HB6.out).mono ?_
    rintro e w7 ⟨rfl, hb1⟩
    have HB7 := Lib.hid (HB6.out.trans (hb1.mono HB6.out.size))
    clear hb1 HB6
    go_wp2_with fail
    refine (HO0.out _ HB7.out).mono ?_
    rintro e wa ⟨C0, k0, rfl, hrd, hba⟩
    have HBa := Lib.hid (HB7.out.trans (hba.mono HB7.out.size))
    have HRa := Lib.hid hrd
    clear hba hrd
    go_wp2_with fail
    refine (HO1.out _ HBa.out).mono ?_
    rintro e wb ⟨C1, k1, rfl, hrd, hbb⟩
    have HBb := Lib.hid (HBa.out.trans (hbb.mono HBa.out.size))
    have HRx := Lib.hid (HRa.out.below hbb)
    have HRy := Lib.hid hrd
    clear hbb hrd HRa HBa
    have HCw := Lib.hid (HT0.out C0 k0 wb HRx.out)
    have HCv := Lib.hid (HT1.out C1 k1 wb HRy.out)
    go_wp2_with (first | ((with_reducible refine HCw.out.mono ?_); rintro e wc ⟨rfl, rfl⟩) | ((with_reducible refine HCv.out.mono ?_); rintro e wd ⟨rfl, rfl⟩))
    go_ret
    exact ⟨rfl, HBb.out⟩
  · have HT0 := Lib.hid (HC0.out false ⟨fun e => (by cases e), fun e => absurd e h0⟩)
    have HT1 := Lib.hid (HC1.out false ⟨fun e => (by cases e), fun e => absurd e h1⟩)
    obtain ⟨r, hr, hq⟩ := HQ.out h0 h1
    have HQ2 := Lib.hid hq
    have HAr := Lib.hid (HAns.out r)
    rw [hr] at HRule
    clear HQ HC0 HC1 HAns h0 h1 hr hq
    go_enter Tryz.func3, Tryz.ntmps3
    go_wp2_with fail
    refine (G0.out _ HB0.out).mono ?_
    rintro e w1 ⟨rfl, hb1⟩
    have HB1 := Lib.hid (HB0.out.trans (hb1.mono HB0.out.size))
    clear hb1 HB0
    go_wp2_with fail
    refine (G1.out _ HB1.out).mono ?_
    rintro e w2 ⟨rfl, hb1⟩
    have HB2 := Lib.hid (HB1.out.trans (hb1.mono HB1.out.size))
    clear hb1 HB1
    go_wp2_with fail
    refine (S0.out _ HB2.out).mono ?_
    rintro e w3 ⟨rfl, hb1⟩
    have HB3 := Lib.hid (HB2.out.trans (hb1.mono HB2.out.size))
    clear hb1 HB2
    go_wp2_with fail
    refine (S1.out _ HB3.out).mono ?_
    rintro e w4 ⟨rfl, hb1⟩
    have HB4 := Lib.hid (HB3.out.trans (hb1.mono HB3.out.size))
    clear hb1 HB3
    go_wp2_with fail
    go_at_call 5
    refine (HB.out _).mono ?_
    rintro e wz ⟨rfl, rfl⟩
    have HB5 := Lib.hid (HB4.out.alloc HB4.out.size (.cells #[.int .i64 (sumB L0 : Int), .int .i64 (sumB L1 : Int), .int .i64 (s.size : Int)] 3))
    clear HB4
    go_wp2_with fail
    refine (KM.out _ HB5.out).mono ?_
    rintro e w6 ⟨rfl, hb1⟩
    have HB6 := Lib.hid (HB5.out.trans (hb1.mono HB5.out.size))
    clear hb1 HB5
    go_wp2_with fail
    refine (HCut.out _ HB6.out).mono ?_
    rintro e w7 ⟨rfl, hb1⟩
    have HB7 := Lib.hid (HB6.out.trans (hb1.mono HB6.out.size))
    clear hb1 HB6
    go_wp2_with fail
    refine (HO0.out _ HB7.out).mono ?_
    rintro e wa ⟨C0, k0, rfl, hrd, hba⟩
    have HBa := Lib.hid (HB7.out.trans (hba.mono HB7.out.size))
    have HRa := Lib.hid hrd
    clear hba hrd
    go_wp2_with fail
    refine (HO1.out _ HBa.out).mono ?_
    rintro e wb ⟨C1, k1, rfl, hrd, hbb⟩
    have HBb := Lib.hid (HBa.out.trans (hbb.mono HBa.out.size))
    have HRx := Lib.hid (HRa.out.below hbb)
    have HRy := Lib.hid hrd
    clear hbb hrd HRa HBa
    have HCw := Lib.hid (HT0.out C0 k0 wb HRx.out)
    have HCv := Lib.hid (HT1.out C1 k1 wb HRy.out)
    go_wp2_with fail
    refine HCw.out.mono ?_
    rintro e wc ⟨rfl, rfl⟩
    go_wp2_with fail
    refine HCv.out.mono ?_
    rintro e wd ⟨rfl, rfl⟩
    go_wp2_with fail
    refine (HQ2.out wb HBb.out).mono ?_
    rintro e we ⟨rfl, hbe⟩
    have HBe := Lib.hid (HBb.out.trans (hbe.mono HBb.out.size))
    have HRu := Lib.hid (HRule.out C0 C1 k0 k1 we (HRx.out.below hbe) (HRy.out.below hbe))
    clear hbe HCw HCv HRx HRy HBb
    go_wp2_with (first | ((with_reducible refine HRu.out.mono ?_); rintro e wf ⟨rfl, rfl⟩) | ((with_reducible refine (HAr.out _).mono ?_); rintro e wg ⟨rfl, rfl⟩))
    go_ret
    exact ⟨rfl, HBe.out⟩

set_option maxRecDepth 100000 in
set_option linter.unusedVariables false in
theorem fnCheckMail_lifted (os : Os) (started : os.Started) (H : Type) (enc : TypeId × Value → H) :
    ReturnsInHanded {} Tryz.checked os 3 .any (fun w args => (Rows.fnCheckMailSpec.pre enc Tryz.prog Tryz.f3 Rows.fnCheckMailRow.domain false w args ∧ laidMetH Tryz.prog Rows.fnCheckMailRow.laid w) ∧ sizedMet enc Tryz.prog Tryz.f3 (OpenSpec.ofChange Rows.fnCheckMailSpec) false w args) (Rows.fnCheckMailSpec.post enc Tryz.prog Tryz.f3 false true false false) := by
  refine returnsInHanded_of_change_and (C := Tryz.checked) (X := fun w _ => laidMetH Tryz.prog Rows.fnCheckMailRow.laid w) (fun _ _ _ hh h => h.of_heap hh) own started (by kernel_rfl) Tryz.func3
    (ChangeSpec.witness_shaped (enc := enc) (C := Tryz.checked) (os := os) (X := fun w _ => laidMetH Tryz.prog Rows.fnCheckMailRow.laid w) false (World.laidAll Tryz.prog os Rows.fnCheckMailRow.laid) #[.slice none 0 0, .slice none 0 0, .string ByteArray.empty] 8 (World.laidAll_os _ _ _)
      (World.shaped_of_ZipB (by kernel_rfl) (by kernel_rfl)) (by kernel_rfl) (by kernel_rfl) (by kernel_rfl)
      (by rw [MakeChecks.laidMetH_plain _ _ _ (by kernel_rfl)]; exact laidMet_laidAll _ (by kernel_rfl) (by kernel_rfl))) ?_
  intro W base args ds gs before hval0 hW hcnd _ hL _
  have hval : ∀ (j : Nat) t v, Tryz.f3.params[j]? = some t → args[j]? = some v → Value.okWide Tryz.prog W .any base t v := hval0
  have hW' := hW
  obtain ⟨p, q, hA0, hV, rfl, hfz, hnd⟩ := hW
  have hA : DataW.TrodAll enc Tryz.prog W 0 (fun _ => true) true Tryz.f3.params.toList args.toList ds p := hA0
  rw [Tryz.params3] at hA hval
  obtain ⟨v0, vs0, d0, ds0, p0, q0, hargs, rfl, rfl, h0, r0⟩ := trodAll_cons hA
  obtain ⟨v1, vs1, d1, ds1, p1, q1, rfl, rfl, rfl, h1, r1⟩ := trodAll_cons r0
  obtain ⟨v2, vs2, d2, ds2, p2, q2, rfl, rfl, rfl, h2, r2⟩ := trodAll_cons r1
  obtain ⟨rfl, rfl, rfl⟩ := trodAll_nil r2
  obtain rfl : args = #[v0, v1, v2] := by cases args; simp_all
  obtain ⟨rfl, rfl⟩ := trodVars_none hV
  have k0 := h0
  have lt0 : ∀ x ∈ p0, x.block < W.heap.size := by obtain ⟨m, hm⟩ := k0; exact DataW.trod_lt m _ _ _ hm
  obtain ⟨A0, n0, c0, bs0, rfl, w0⟩ := opened_strings (hval 0 22 v0 rfl rfl) h0
  have k1 := h1
  have lt1 : ∀ x ∈ p1, x.block < W.heap.size := by obtain ⟨m, hm⟩ := k1; exact DataW.trod_lt m _ _ _ hm
  obtain ⟨A1, n1, c1, bs1, rfl, w1⟩ := opened_strings (hval 1 22 v1 rfl rfl) h1
  obtain ⟨a2, rfl, rfl, rfl, w2⟩ := open_string Tryz.underlying9 (hval 2 9 v2 rfl rfl) h2
  clear hA0 hval0
  refine (fnCheckMail_walk (w := W) A0 n0 c0 bs0 w0 A1 n1 c1 bs1 w1 a2 w2).mono fun e W' ⟨he, bel⟩ => ?_
  subst he
  exact ⟨_, rfl, _, _, _, [], _, [], hW', trodAll_mk1 (shut_bool Tryz.underlying4 _), (trodAll_cons_mk (Below.trod laidOut (by kernel_rfl) (of_decide_eq_true (by kernel_rfl)) k0 bel lt0) (trodAll_cons_mk (Below.trod laidOut (by kernel_rfl) (of_decide_eq_true (by kernel_rfl)) k1 bel lt1) (trodAll_cons_mk (shut_string Tryz.underlying9 w2) trodAll_mk0))), rfl, bel.frame _, fun h => by cases h⟩
theorem fnCheckMail_facts : joinedFacts Tryz.prog 3 Tryz.f3 Rows.fnCheckMailSpec Rows.fnCheckMailRow = true :=
  facts_of rfl head_enter head_lifts head_make rfl rfl (by kernel_rfl) (by kernel_rfl) (by kernel_rfl) (by kernel_rfl) (by kernel_rfl)
set_option maxRecDepth 100000 in
theorem fnCheckMail_row : Rows.FnCheckMailSaid :=
  OpenClaim.holds_of_wide 3 Tryz.f3 rfl rfl rfl rfl rfl rfl rfl ⟨rfl, rfl, rfl, rfl, rfl⟩ rfl rfl rfl rfl rfl (by kernel_rfl) Tryz.func3 fnCheckMail_facts
    (of_decide_eq_true (by kernel_rfl)) (by unfold Func.isWrapper; first | (rw [if_pos (by decide +kernel)]; kernel_rfl) | (rw [if_neg (by decide +kernel)]; exact ⟨rfl, rfl⟩))
    (fun os started H enc _ => fnCheckMail_lifted os started H enc)
set_option maxRecDepth 100000 in
theorem fnCheckMail_holds : Rows.FnCheckMailCardSaid :=
  Claim7.holds_tied_plain_at .later [] [.data, .pinned, .pinned] true (true, "45903cf84b26bb45a00954d1b2df0e3bc88968098a473e3dcff6152568785826") false fnCheckMail_row (fun _ h => by cases h) (by kernel_rfl) (fun _ h => by cases h) fnCheckMail_row_tie rfl ⟨rfl, rfl⟩ (by kernel_rfl) rfl
    (fun f fn hf hfn => by
      obtain rfl : f = 3 := Option.some.inj ((show Tryz.prog.funcNamed "loop.example/pub-g03129/laws.FnCheckMail" = some 3 by kernel_rfl).symm.trans hf) |>.symm
      obtain rfl : fn = Tryz.f3 := (Option.some.inj (Tryz.func3.symm.trans hfn)).symm
      exact ⟨by kernel_rfl, fun j t ht => by
        rw [Tryz.params3] at ht
        have hm : t ∈ [22, 22, 9] := by simpa using Array.mem_of_getElem? ht
        have hall : ([22, 22, 9].all fun u => !Tryz.prog.wantsStandIn u) = true := by kernel_rfl
        exact (show Tryz.prog.wantsStandIn t = false by simpa using List.all_eq_true.1 hall t hm)⟩)
    (by kernel_rfl)
end Go.Proofs.YtdinnpjplgkffaaGreatDoor
