/-
  FnQueryMail holds: an address meets a constraint that is a mailbox where it is that one, one that is a host where it is at that, one with a dot ahead where its host has labels more. For every input; no condition of ours. And its tied card.
-/
import Derived.Test.YtdinnpjplgkffaaDoorPLaws
import Derived.Test.YtdinnpjplgkffaaDoorTie
import Derived.Test.YtdinnpjplgkffaaDoorCards
import Derived.LaidMore
import Derived.Lay
import Derived.SevenTiedAt
import Derived.Stop.Joined
namespace Go.Proofs.YtdinnpjplgkffaaDoor
open Go.ChangeShapes Go.WideShapes Go.ChangeAt Go.RowKit
open Go.ChangeMaps (open_string shut_string)

set_option maxRecDepth 100000 in
set_option maxHeartbeats 8000000 in
theorem fnQueryMail_walk {w : World} (A0 : Option Addr) (n0 c0 : Nat) (L0 : List ByteArray) (t0 : TextsR w A0 n0 c0 L0) (pm : Bool) (a : ByteArray) (ha0 : a.size ≤ maxLen) (d : ByteArray) (hd0 : d.size ≤ maxLen) :
    Calls Tryd.prog 9 #[.slice A0 n0 c0, .bool pm, .string a, .string d] w (Ret (.bool true) w) := by
  have HB0 : Hid (Below w.heap.size w w) := Below.refl _ _
  obtain ⟨rfl, a0, b0, d0, f0, r0⟩ := t0
  have R0 := Lib.hid r0
  have M0 := Lib.hid d0
  have ml0 : L0.length ≤ maxLen := Nat.le_trans a0 b0
  have F0 := Lib.hid (fun b hb W (hW : Below w.heap.size w W) => fits_any A0 _ c0 L0 W b hb rfl ml0 f0 (r0.below hW))
  clear r0 d0 f0
  unfold maxLen at *
  by_cases gf0 : fitsP L0
  rotate_left
  · have HK : Hid (∀ W, Below w.heap.size w W → Calls Tryd.prog 15 #[.slice A0 L0.length c0] W (Ret (.bool false) W)) := fun W hW => F0.out false ⟨fun e => (by cases e), fun e => absurd e gf0⟩ W hW
    go_enter Tryd.func9, Tryd.ntmps9
    go_wp2_with ((with_reducible refine (HK.out _ HB0.out).mono ?_); rintro e wf ⟨rfl, hbf⟩)
    go_ret
    exact ⟨rfl, HB0.out.trans (hbf.mono HB0.out.size)⟩
  have G0 : Hid (∀ W, Below w.heap.size w W → Calls Tryd.prog 15 #[.slice A0 L0.length c0] W (Ret (.bool true) W)) := fun W hW => F0.out true ⟨fun _ => gf0, fun _ => rfl⟩ W hW
  have GF0 := Lib.hid gf0
  clear gf0 F0
  by_cases g_a : 2147483647 < a.size
  · have x_a : decide (2147483647 < (a.size : Int)) = true := by rw [decide_eq_true_eq]; omega
    go_enter Tryd.func9, Tryd.ntmps9
    go_wp2_with fail
    refine (G0.out _ HB0.out).mono ?_
    rintro e w1 ⟨rfl, hb1⟩
    have HB1 := Lib.hid (HB0.out.trans (hb1.mono HB0.out.size))
    clear hb1 HB0
    go_wp2
    go_ret
    exact ⟨rfl, HB1.out⟩
  have s_a : a.size ≤ 2147483647 := by omega
  have x_a : decide (2147483647 < (a.size : Int)) = false := by rw [decide_eq_false_iff_not]; omega
  clear g_a
  by_cases g_d : 2147483647 < d.size
  · have x_d : decide (2147483647 < (d.size : Int)) = true := by rw [decide_eq_true_eq]; omega
    go_enter Tryd.func9, Tryd.ntmps9
    go_wp2_with fail
    refine (G0.out _ HB0.out).mono ?_
    rintro e w1 ⟨rfl, hb1⟩
    have HB1 := Lib.hid (HB0.out.trans (hb1.mono HB0.out.size))
    clear hb1 HB0
    go_wp2
    go_ret
    exact ⟨rfl, HB1.out⟩
  have s_d : d.size ≤ 2147483647 := by omega
  have x_d : decide (2147483647 < (d.size : Int)) = false := by rw [decide_eq_false_iff_not]; omega
  clear g_d
  have S0 : Hid (∀ W, Below w.heap.size w W → Calls Tryd.prog 16 #[.slice A0 L0.length c0] W (Ret (.int .i64 (sumB L0)) W)) := fun W hW => sum_any A0 _ c0 L0 W GF0.out rfl (R0.out.below hW)
  by_cases gb : ((1048576 < sumB L0) ∨ 1048576 < a.size) ∨ 1048576 < d.size
  · have HB := Lib.hid (fun W => beyond3 (sumB L0) (a.size) (d.size) true (by simpa using gb) W)
    clear gb
    go_enter Tryd.func9, Tryd.ntmps9
    go_wp2_with fail
    refine (G0.out _ HB0.out).mono ?_
    rintro e w1 ⟨rfl, hb1⟩
    have HB1 := Lib.hid (HB0.out.trans (hb1.mono HB0.out.size))
    clear hb1 HB0
    go_wp2_with fail
    refine (S0.out _ HB1.out).mono ?_
    rintro e w2 ⟨rfl, hb1⟩
    have HB2 := Lib.hid (HB1.out.trans (hb1.mono HB1.out.size))
    clear hb1 HB1
    go_wp2_with (go_at_call 10; refine (HB.out _).mono ?_; rintro e wz ⟨rfl, rfl⟩)
    go_ret
    exact ⟨rfl, HB2.out.alloc HB2.out.size _⟩
  have HB := Lib.hid (fun W => beyond3 (sumB L0) (a.size) (d.size) false (by simpa using gb) W)
  clear gb
  by_cases gm0 : 50 < L0.length
  · have xm0 : decide (50 < (L0.length : Int)) = true := by rw [decide_eq_true_eq]; omega
    go_enter Tryd.func9, Tryd.ntmps9
    go_wp2_with fail
    refine (G0.out _ HB0.out).mono ?_
    rintro e w1 ⟨rfl, hb1⟩
    have HB1 := Lib.hid (HB0.out.trans (hb1.mono HB0.out.size))
    clear hb1 HB0
    go_wp2_with fail
    refine (S0.out _ HB1.out).mono ?_
    rintro e w2 ⟨rfl, hb1⟩
    have HB2 := Lib.hid (HB1.out.trans (hb1.mono HB1.out.size))
    clear hb1 HB1
    go_wp2_with fail
    go_at_call 10
    refine (HB.out _).mono ?_
    rintro e wz ⟨rfl, rfl⟩
    have HB3 := Lib.hid (HB2.out.alloc HB2.out.size (.cells #[.int .i64 (sumB L0 : Int), .int .i64 (a.size : Int), .int .i64 (d.size : Int)] 3))
    clear HB2
    go_wp2
    go_ret
    exact ⟨rfl, HB3.out⟩
  have hm0 : L0.length ≤ 50 := by omega
  have xm0 : decide (50 < (L0.length : Int)) = false := by rw [decide_eq_false_iff_not]; omega
  clear gm0
  by_cases lo_a : localOk (bytes a)
  rotate_left
  · have HK : Hid (∀ W, Below w.heap.size w W → Calls Tryd.prog 11 #[.string a] W (Ret (.bool false) W)) := fun W _ => localOk_any a s_a W false ⟨fun e => (by cases e), fun e => absurd e lo_a⟩
    clear lo_a
    go_enter Tryd.func9, Tryd.ntmps9
    go_wp2_with fail
    refine (G0.out _ HB0.out).mono ?_
    rintro e w1 ⟨rfl, hb1⟩
    have HB1 := Lib.hid (HB0.out.trans (hb1.mono HB0.out.size))
    clear hb1 HB0
    go_wp2_with fail
    refine (S0.out _ HB1.out).mono ?_
    rintro e w2 ⟨rfl, hb1⟩
    have HB2 := Lib.hid (HB1.out.trans (hb1.mono HB1.out.size))
    clear hb1 HB1
    go_wp2_with fail
    go_at_call 10
    refine (HB.out _).mono ?_
    rintro e wz ⟨rfl, rfl⟩
    have HB3 := Lib.hid (HB2.out.alloc HB2.out.size (.cells #[.int .i64 (sumB L0 : Int), .int .i64 (a.size : Int), .int .i64 (d.size : Int)] 3))
    clear HB2
    go_wp2_with ((with_reducible refine (HK.out _ HB3.out).mono ?_); rintro e wf ⟨rfl, hbf⟩)
    go_ret
    exact ⟨rfl, HB3.out.trans (hbf.mono HB3.out.size)⟩
  have K_a : Hid (∀ W, Below w.heap.size w W → Calls Tryd.prog 11 #[.string a] W (Ret (.bool true) W)) := fun W _ => localOk_any a s_a W true ⟨fun _ => lo_a, fun _ => rfl⟩
  have Q_a := Lib.hid lo_a
  clear lo_a
  cases no_d : nameOk (bytes d)
  · have HK : Hid (∀ W, Below w.heap.size w W → Calls Tryd.prog 12 #[.string d] W (Ret (.bool false) W)) := fun W _ => by have h := nameOk_any d s_d W; rw [no_d] at h; exact h
    clear no_d
    go_enter Tryd.func9, Tryd.ntmps9
    go_wp2_with fail
    refine (G0.out _ HB0.out).mono ?_
    rintro e w1 ⟨rfl, hb1⟩
    have HB1 := Lib.hid (HB0.out.trans (hb1.mono HB0.out.size))
    clear hb1 HB0
    go_wp2_with fail
    refine (S0.out _ HB1.out).mono ?_
    rintro e w2 ⟨rfl, hb1⟩
    have HB2 := Lib.hid (HB1.out.trans (hb1.mono HB1.out.size))
    clear hb1 HB1
    go_wp2_with fail
    go_at_call 10
    refine (HB.out _).mono ?_
    rintro e wz ⟨rfl, rfl⟩
    have HB3 := Lib.hid (HB2.out.alloc HB2.out.size (.cells #[.int .i64 (sumB L0 : Int), .int .i64 (a.size : Int), .int .i64 (d.size : Int)] 3))
    clear HB2
    go_wp2_with fail
    refine (K_a.out _ HB3.out).mono ?_
    rintro e w4 ⟨rfl, hb1⟩
    have HB4 := Lib.hid (HB3.out.trans (hb1.mono HB3.out.size))
    clear hb1 HB3
    go_wp2_with ((with_reducible refine (HK.out _ HB4.out).mono ?_); rintro e wf ⟨rfl, hbf⟩)
    go_ret
    exact ⟨rfl, HB4.out.trans (hbf.mono HB4.out.size)⟩
  have N_d : Hid (∀ W, Below w.heap.size w W → Calls Tryd.prog 12 #[.string d] W (Ret (.bool true) W)) := fun W _ => by have h := nameOk_any d s_d W; rw [no_d] at h; exact h
  have O_d := Lib.hid no_d
  clear no_d
  have hne : ((ofBytes (lowL (bytes d))).toList == d.toList) = decide (lowL (bytes d) = bytes d) := by rw [text_eq, bytes_ofBytes]
  have HLw : Hid (∀ W, Below w.heap.size w W → Calls Tryd.prog 14 #[.string d] W (Ret (.string (ofBytes (lowL (bytes d)))) W)) := fun W _ => specLower_any d s_d W
  obtain ⟨z, hz⟩ : ∃ z, ofBytes (lowL (bytes d)) = z := ⟨_, rfl⟩
  rw [hz] at hne HLw
  clear hz
  by_cases hlo : lowL (bytes d) = bytes d
  rotate_left
  · rw [decide_eq_false hlo] at hne
    clear hlo
    go_enter Tryd.func9, Tryd.ntmps9
    go_wp2_with fail
    refine (G0.out _ HB0.out).mono ?_
    rintro e w1 ⟨rfl, hb1⟩
    have HB1 := Lib.hid (HB0.out.trans (hb1.mono HB0.out.size))
    clear hb1 HB0
    go_wp2_with fail
    refine (S0.out _ HB1.out).mono ?_
    rintro e w2 ⟨rfl, hb1⟩
    have HB2 := Lib.hid (HB1.out.trans (hb1.mono HB1.out.size))
    clear hb1 HB1
    go_wp2_with fail
    go_at_call 10
    refine (HB.out _).mono ?_
    rintro e wz ⟨rfl, rfl⟩
    have HB3 := Lib.hid (HB2.out.alloc HB2.out.size (.cells #[.int .i64 (sumB L0 : Int), .int .i64 (a.size : Int), .int .i64 (d.size : Int)] 3))
    clear HB2
    go_wp2_with fail
    refine (K_a.out _ HB3.out).mono ?_
    rintro e w4 ⟨rfl, hb1⟩
    have HB4 := Lib.hid (HB3.out.trans (hb1.mono HB3.out.size))
    clear hb1 HB3
    go_wp2_with fail
    refine (N_d.out _ HB4.out).mono ?_
    rintro e w5 ⟨rfl, hb1⟩
    have HB5 := Lib.hid (HB4.out.trans (hb1.mono HB4.out.size))
    clear hb1 HB4
    go_wp2_with ((with_reducible refine (HLw.out _ HB5.out).mono ?_); rintro e wf ⟨rfl, hbf⟩)
    go_ret
    exact ⟨rfl, HB5.out.trans (hbf.mono HB5.out.size)⟩
  rw [decide_eq_true hlo] at hne
  have HLo := Lib.hid hlo
  clear hlo
  have HO : Hid (∀ W, Below w.heap.size w W → Calls Tryd.prog 28 #[.slice A0 L0.length c0, .string a, .string d] W (SaysPost (L0.map fun y => saysM y a d) W)) := fun W hW => lawsMails_any A0 _ c0 L0 a d W rfl GF0.out s_d (R0.out.below hW)
  have HQ : Hid (¬ (2 : Int) ∈ (L0.map fun y => saysM y a d) → ∃ b, fnd (L0.map fun y => saysM y a d) = (if b = true then 1 else 0) ∧ ∀ W, Below w.heap.size w W → Calls Tryd.prog 29 #[.slice A0 L0.length c0, .bool pm, .string a, .string d] W (Ret (.bool b) W)) := fun t => by
    have n1 := mails_of t
    obtain ⟨b, hb⟩ := exB (MetM L0 (bytes a) (bytes d))
    have hls : d.size ≤ 200 := by have := nameOk_size O_d.out; rwa [bytes_length] at this
    have hla : a.size ≤ 100 := by have := (localOk_locL Q_a.out).2; rwa [bytes_length] at this
    have hb' : b = true ↔ MetM L0 (bytes a) (lowL (bytes d)) := by rw [HLo.out]; exact hb
    exact ⟨b, fnd_mails t O_d.out hb', fun W hW => implQueryMail_any A0 _ c0 L0 pm a d W (by omega) (AskT.of O_d.out) (by omega) rfl (by omega) n1 M0.out (R0.out.below hW) b hb⟩
  have hX : (L0.map fun y => saysM y a d).length ≤ 2147483647 := by rw [List.length_map]; omega
  generalize (L0.map fun y => saysM y a d) = X at HO HQ hX
  have HCt : Hid (∀ b, (b = true ↔ (2 : Int) ∈ X) → ∀ A c W, Rd W A (ints X) → Calls Tryd.prog 25 #[.slice A X.length c, .int .i64 2] W (SameE (.bool b) W)) := fun b hb A c W h => containsI_any A _ c X 2 W rfl hX h b hb
  have HAny : Hid (∀ A c W, Rd W A (ints X) → Calls Tryd.prog 19 #[.slice A X.length c] W (SameE (.int .i64 (fnd X)) W)) := fun A c W h => any_any A _ c X W rfl hX h
  by_cases h2 : (2 : Int) ∈ X
  · have HC2 := Lib.hid (HCt.out true ⟨fun _ => h2, fun _ => rfl⟩)
    clear HQ HCt HAny h2
    go_enter Tryd.func9, Tryd.ntmps9
    go_wp2_with fail
    refine (G0.out _ HB0.out).mono ?_
    rintro e w1 ⟨rfl, hb1⟩
    have HB1 := Lib.hid (HB0.out.trans (hb1.mono HB0.out.size))
    clear hb1 HB0
    go_wp2_with fail
    refine (S0.out _ HB1.out).mono ?_
    rintro e w2 ⟨rfl, hb1⟩
    have HB2 := Lib.hid (HB1.out.trans (hb1.mono HB1.out.size))
    clear hb1 HB1
    go_wp2_with fail
    go_at_call 10
    refine (HB.out _).mono ?_
    rintro e wz ⟨rfl, rfl⟩
    have HB3 := Lib.hid (HB2.out.alloc HB2.out.size (.cells #[.int .i64 (sumB L0 : Int), .int .i64 (a.size : Int), .int .i64 (d.size : Int)] 3))
    clear HB2
    go_wp2_with fail
    refine (K_a.out _ HB3.out).mono ?_
    rintro e w4 ⟨rfl, hb1⟩
    have HB4 := Lib.hid (HB3.out.trans (hb1.mono HB3.out.size))
    clear hb1 HB3
    go_wp2_with fail
    refine (N_d.out _ HB4.out).mono ?_
    rintro e w5 ⟨rfl, hb1⟩
    have HB5 := Lib.hid (HB4.out.trans (hb1.mono HB4.out.size))
    clear hb1 HB4
    go_wp2_with fail
    refine (HLw.out _ HB5.out).mono ?_
    rintro e w6 ⟨rfl, hb1⟩
    have HB6 := Lib.hid (HB5.out.trans (hb1.mono HB5.out.size))
    clear hb1 HB5
    go_wp2_with fail
    refine (HO.out _ HB6.out).mono ?_
    rintro e wa ⟨C, k, rfl, hrd, hba⟩
    have HBa := Lib.hid (HB6.out.trans (hba.mono HB6.out.size))
    have HCw := Lib.hid (HC2.out C k wa hrd)
    clear hba hrd
    go_wp2_with ((with_reducible refine HCw.out.mono ?_); rintro e wb ⟨rfl, rfl⟩)
    go_ret
    exact ⟨rfl, HBa.out⟩
  · have HC2 := Lib.hid (HCt.out false ⟨fun e => (by cases e), fun e => absurd e h2⟩)
    obtain ⟨b, hfb, hq⟩ := HQ.out h2
    have HQ2 := Lib.hid hq
    rw [hfb] at HAny
    clear HQ HCt h2 hq hfb
    cases b
    all_goals
      go_enter Tryd.func9, Tryd.ntmps9
      go_wp2_with fail
      refine (G0.out _ HB0.out).mono ?_
      rintro e w1 ⟨rfl, hb1⟩
      have HB1 := Lib.hid (HB0.out.trans (hb1.mono HB0.out.size))
      clear hb1 HB0
      go_wp2_with fail
      refine (S0.out _ HB1.out).mono ?_
      rintro e w2 ⟨rfl, hb1⟩
      have HB2 := Lib.hid (HB1.out.trans (hb1.mono HB1.out.size))
      clear hb1 HB1
      go_wp2_with fail
      go_at_call 10
      refine (HB.out _).mono ?_
      rintro e wz ⟨rfl, rfl⟩
      have HB3 := Lib.hid (HB2.out.alloc HB2.out.size (.cells #[.int .i64 (sumB L0 : Int), .int .i64 (a.size : Int), .int .i64 (d.size : Int)] 3))
      clear HB2
      go_wp2_with fail
      refine (K_a.out _ HB3.out).mono ?_
      rintro e w4 ⟨rfl, hb1⟩
      have HB4 := Lib.hid (HB3.out.trans (hb1.mono HB3.out.size))
      clear hb1 HB3
      go_wp2_with fail
      refine (N_d.out _ HB4.out).mono ?_
      rintro e w5 ⟨rfl, hb1⟩
      have HB5 := Lib.hid (HB4.out.trans (hb1.mono HB4.out.size))
      clear hb1 HB4
      go_wp2_with fail
      refine (HLw.out _ HB5.out).mono ?_
      rintro e w6 ⟨rfl, hb1⟩
      have HB6 := Lib.hid (HB5.out.trans (hb1.mono HB5.out.size))
      clear hb1 HB5
      go_wp2_with fail
      refine (HO.out _ HB6.out).mono ?_
      rintro e wa ⟨C, k, rfl, hrd, hba⟩
      have HBa := Lib.hid (HB6.out.trans (hba.mono HB6.out.size))
      have HRa := Lib.hid hrd
      have HCw := Lib.hid (HC2.out C k wa hrd)
      clear hba hrd
      go_wp2_with fail
      refine HCw.out.mono ?_
      rintro e wb ⟨rfl, rfl⟩
      go_wp2_with fail
      refine (HQ2.out wa HBa.out).mono ?_
      rintro e wc ⟨rfl, hbc⟩
      have HBc := Lib.hid (HBa.out.trans (hbc.mono HBa.out.size))
      have HAw := Lib.hid (HAny.out C k wc (HRa.out.below hbc))
      clear hbc HBa HRa HCw
      go_wp2_with ((with_reducible refine HAw.out.mono ?_); rintro e wd ⟨rfl, rfl⟩)
      go_ret
      exact ⟨rfl, HBc.out⟩

set_option maxRecDepth 100000 in
set_option linter.unusedVariables false in
theorem fnQueryMail_lifted (os : Os) (started : os.Started) (H : Type) (enc : TypeId × Value → H) :
    ReturnsInHanded {} Tryd.checked os 9 .any (fun w args => (Rows.fnQueryMailSpec.pre enc Tryd.prog Tryd.f9 Rows.fnQueryMailRow.domain false w args ∧ laidMetH Tryd.prog Rows.fnQueryMailRow.laid w) ∧ sizedMet enc Tryd.prog Tryd.f9 (OpenSpec.ofChange Rows.fnQueryMailSpec) false w args) (Rows.fnQueryMailSpec.post enc Tryd.prog Tryd.f9 false true false false) := by
  refine returnsInHanded_of_change_and (C := Tryd.checked) (X := fun w _ => laidMetH Tryd.prog Rows.fnQueryMailRow.laid w) (fun _ _ _ hh h => h.of_heap hh) own started (by kernel_rfl) Tryd.func9
    (ChangeSpec.witness_shaped (enc := enc) (C := Tryd.checked) (os := os) (X := fun w _ => laidMetH Tryd.prog Rows.fnQueryMailRow.laid w) false (World.laidAll Tryd.prog os Rows.fnQueryMailRow.laid) #[.slice none 0 0, .bool false, .string ByteArray.empty, .string ByteArray.empty] 8 (World.laidAll_os _ _ _)
      (World.shaped_of_ZipB (by kernel_rfl) (by kernel_rfl)) (by kernel_rfl) (by kernel_rfl) (by kernel_rfl)
      (by rw [MakeChecks.laidMetH_plain _ _ _ (by kernel_rfl)]; exact laidMet_laidAll _ (by kernel_rfl) (by kernel_rfl))) ?_
  intro W base args ds gs before hval0 hW hcnd _ hL _
  have hval : ∀ (j : Nat) t v, Tryd.f9.params[j]? = some t → args[j]? = some v → Value.okWide Tryd.prog W .any base t v := hval0
  have hW' := hW
  obtain ⟨p, q, hA0, hV, rfl, hfz, hnd⟩ := hW
  have hA : DataW.TrodAll enc Tryd.prog W 0 (fun _ => true) true Tryd.f9.params.toList args.toList ds p := hA0
  rw [Tryd.params9] at hA hval
  obtain ⟨v0, vs0, d0, ds0, p0, q0, hargs, rfl, rfl, h0, r0⟩ := trodAll_cons hA
  obtain ⟨v1, vs1, d1, ds1, p1, q1, rfl, rfl, rfl, h1, r1⟩ := trodAll_cons r0
  obtain ⟨v2, vs2, d2, ds2, p2, q2, rfl, rfl, rfl, h2, r2⟩ := trodAll_cons r1
  obtain ⟨v3, vs3, d3, ds3, p3, q3, rfl, rfl, rfl, h3, r3⟩ := trodAll_cons r2
  obtain ⟨rfl, rfl, rfl⟩ := trodAll_nil r3
  obtain rfl : args = #[v0, v1, v2, v3] := by cases args; simp_all
  obtain ⟨rfl, rfl⟩ := trodVars_none hV
  have k0 := h0
  have lt0 : ∀ x ∈ p0, x.block < W.heap.size := by obtain ⟨m, hm⟩ := k0; exact DataW.trod_lt m _ _ _ hm
  obtain ⟨A0, n0, c0, bs0, rfl, w0⟩ := opened_strings (hval 0 24 v0 rfl rfl) h0
  obtain ⟨a1, rfl, rfl, rfl⟩ := open_bool Tryd.underlying4 (hval 1 4 v1 rfl rfl) h1
  obtain ⟨a2, rfl, rfl, rfl, w2⟩ := open_string Tryd.underlying9 (hval 2 9 v2 rfl rfl) h2
  obtain ⟨a3, rfl, rfl, rfl, w3⟩ := open_string Tryd.underlying9 (hval 3 9 v3 rfl rfl) h3
  clear hA0 hval0
  refine (fnQueryMail_walk (w := W) A0 n0 c0 bs0 w0 a1 a2 w2 a3 w3).mono fun e W' ⟨he, bel⟩ => ?_
  subst he
  exact ⟨_, rfl, _, _, _, [], _, [], hW', trodAll_mk1 (shut_bool Tryd.underlying4 _), (trodAll_cons_mk (Below.trod laidOut (by kernel_rfl) (of_decide_eq_true (by kernel_rfl)) k0 bel lt0) (trodAll_cons_mk (shut_bool Tryd.underlying4 a1) (trodAll_cons_mk (shut_string Tryd.underlying9 w2) (trodAll_cons_mk (shut_string Tryd.underlying9 w3) trodAll_mk0)))), rfl, bel.frame _, fun h => by cases h⟩
theorem fnQueryMail_facts : joinedFacts Tryd.prog 9 Tryd.f9 Rows.fnQueryMailSpec Rows.fnQueryMailRow = true :=
  facts_of rfl head_enter head_lifts head_make rfl rfl (by kernel_rfl) (by kernel_rfl) (by kernel_rfl) (by kernel_rfl) (by kernel_rfl)
set_option maxRecDepth 100000 in
theorem fnQueryMail_row : Rows.FnQueryMailSaid :=
  OpenClaim.holds_of_wide 9 Tryd.f9 rfl rfl rfl rfl rfl rfl rfl ⟨rfl, rfl, rfl, rfl, rfl⟩ rfl rfl rfl rfl rfl (by kernel_rfl) Tryd.func9 fnQueryMail_facts
    (of_decide_eq_true (by kernel_rfl)) (by unfold Func.isWrapper; first | (rw [if_pos (by decide +kernel)]; kernel_rfl) | (rw [if_neg (by decide +kernel)]; exact ⟨rfl, rfl⟩))
    (fun os started H enc _ => fnQueryMail_lifted os started H enc)
set_option maxRecDepth 100000 in
theorem fnQueryMail_holds : Rows.FnQueryMailCardSaid :=
  Claim7.holds_tied_plain_at .later [] [.data, .pinned, .pinned] true (true, "47dc8390ac227de7a865ba6f089e7475486b30b73b4649b8ec8f28900be40170") false fnQueryMail_row (fun _ h => by cases h) (by kernel_rfl) (fun _ h => by cases h) fnQueryMail_row_tie rfl ⟨rfl, rfl⟩ (by kernel_rfl) rfl
    (fun f fn hf hfn => by
      obtain rfl : f = 9 := Option.some.inj ((show Tryd.prog.funcNamed "loop.example/pub-g03129/laws.FnQueryMail" = some 9 by kernel_rfl).symm.trans hf) |>.symm
      obtain rfl : fn = Tryd.f9 := (Option.some.inj (Tryd.func9.symm.trans hfn)).symm
      exact ⟨by kernel_rfl, fun j t ht => by
        rw [Tryd.params9] at ht
        have hm : t ∈ [24, 4, 9, 9] := by simpa using Array.mem_of_getElem? ht
        have hall : ([24, 4, 9, 9].all fun u => !Tryd.prog.wantsStandIn u) = true := by kernel_rfl
        exact (show Tryd.prog.wantsStandIn t = false by simpa using List.all_eq_true.1 hall t hm)⟩)
    (by kernel_rfl)
end Go.Proofs.YtdinnpjplgkffaaDoor
