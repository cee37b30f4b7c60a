/-
  FnCheckDNS holds: a name is refused just where it meets an excluded constraint, or there are permitted ones and it meets none. For every input; no condition of ours. And its tied card.
-/
import Derived.Test.YtdinnpjplgkffaaDoorE7
import Derived.Test.YtdinnpjplgkffaaDoorTie
import Derived.Test.YtdinnpjplgkffaaDoorCards
import Derived.LaidMore
import Derived.Lay
import Derived.SevenTiedAt
import Derived.Stop.Joined
namespace Go.Proofs.YtdinnpjplgkffaaDoor
open Go.ChangeShapes Go.WideShapes Go.ChangeAt Go.RowKit
open Go.ChangeMaps (open_string shut_string)

set_option maxRecDepth 100000 in
set_option maxHeartbeats 8000000 in
theorem fnCheckDNS_walk {w : World} (A0 : Option Addr) (n0 c0 : Nat) (L1 : List ByteArray) (w0 : TextsR w A0 n0 c0 L1) (A1 : Option Addr) (n1 c1 : Nat) (L2 : List ByteArray) (w1 : TextsR w A1 n1 c1 L2) (x : ByteArray) (hx0 : x.size ≤ maxLen) :
    Calls Tryd.prog 8 #[.slice A0 n0 c0, .slice A1 n1 c1, .string x] w (Ret (.bool true) w) := by
  obtain ⟨rfl, a1, a2, a3, a4, r0⟩ := w0
  obtain ⟨rfl, b1, b2, b3, b4, r1⟩ := w1
  have R0 := Lib.hid r0
  have R1 := Lib.hid r1
  have M0 := Lib.hid a3
  have M1 := Lib.hid b3
  have hml0 : L1.length ≤ maxLen := Nat.le_trans a1 a2
  have hml1 : L2.length ≤ maxLen := Nat.le_trans b1 b2
  have HF0 := fun b hb => fits_any A0 _ c0 L1 w b hb rfl hml0 a4 r0
  have HF1 := fun b hb W (hW : Below w.heap.size w W) => fits_any A1 _ c1 L2 W b hb rfl hml1 b4 (r1.below hW)
  unfold maxLen at hx0 a2 b2 hml0 hml1
  clear r0 r1 a3 b3 a4 b4
  by_cases gf0 : fitsP L1
  rotate_left
  · have H0 := Lib.hid (HF0 false ⟨fun e => (by cases e), fun e => absurd e gf0⟩)
    clear HF0 HF1 gf0
    go_enter Tryd.func8, Tryd.ntmps8
    go_wp2_with ((with_reducible refine H0.out.mono ?_); rintro e w1 ⟨rfl, hb1⟩)
    go_ret
    exact ⟨rfl, hb1⟩
  have H0 := Lib.hid (HF0 true ⟨fun _ => gf0, fun _ => rfl⟩)
  clear HF0
  by_cases gf1 : fitsP L2
  rotate_left
  · have H1 := Lib.hid (HF1 false ⟨fun e => (by cases e), fun e => absurd e gf1⟩)
    clear HF1 gf1 gf0
    go_enter Tryd.func8, Tryd.ntmps8
    go_wp2_with fail
    refine H0.out.mono ?_
    rintro e w1 ⟨rfl, hb1⟩
    have HB1 := Lib.hid hb1
    clear hb1
    go_wp2_with ((with_reducible refine (H1.out _ HB1.out).mono ?_); rintro e w2 ⟨rfl, hb2⟩)
    go_ret
    exact ⟨rfl, HB1.out.trans (hb2.mono HB1.out.size)⟩
  have H1 := Lib.hid (HF1 true ⟨fun _ => gf1, fun _ => rfl⟩)
  clear HF1
  by_cases g2 : 2147483647 < x.size
  · clear gf0 gf1
    go_enter Tryd.func8, Tryd.ntmps8
    go_wp2_with fail
    refine H0.out.mono ?_
    rintro e w1 ⟨rfl, hb1⟩
    have HB1 := Lib.hid hb1
    clear hb1
    go_wp2_with ((with_reducible refine (H1.out _ HB1.out).mono ?_); rintro e w2 ⟨rfl, hb2⟩)
    go_ret
    exact ⟨rfl, HB1.out.trans (hb2.mono HB1.out.size)⟩
  have g2' : x.size ≤ 2147483647 := by omega
  have HS0 : Hid (∀ W, Below w.heap.size w W → Calls Tryd.prog 16 #[.slice A0 L1.length c0] W (Ret (.int .i64 (sumB L1)) W)) := fun W hW => sum_any A0 _ c0 L1 W gf0 rfl (R0.out.below hW)
  have HS1 : Hid (∀ W, Below w.heap.size w W → Calls Tryd.prog 16 #[.slice A1 L2.length c1] W (Ret (.int .i64 (sumB L2)) W)) := fun W hW => sum_any A1 _ c1 L2 W gf1 rfl (R1.out.below hW)
  by_cases gb : (1048576 < sumB L1 ∨ 1048576 < sumB L2) ∨ 1048576 < x.size
  · have HB := Lib.hid (fun W => beyond3 (sumB L1) (sumB L2) x.size true (by simpa using gb) W)
    clear gb g2 gf0 gf1
    go_enter Tryd.func8, Tryd.ntmps8
    go_wp2_with fail
    refine H0.out.mono ?_
    rintro e w1 ⟨rfl, hb1⟩
    have HB1 := Lib.hid hb1
    clear hb1
    go_wp2_with fail
    refine (H1.out _ HB1.out).mono ?_
    rintro e w2 ⟨rfl, hb1⟩
    have HB2 := Lib.hid (HB1.out.trans (hb1.mono HB1.out.size))
    clear hb1 HB1
    go_wp2_with fail
    refine (HS0.out _ HB2.out).mono ?_
    rintro e w3 ⟨rfl, hb1⟩
    have HB3 := Lib.hid (HB2.out.trans (hb1.mono HB2.out.size))
    clear hb1 HB2
    go_wp2_with fail
    refine (HS1.out _ HB3.out).mono ?_
    rintro e w4 ⟨rfl, hb1⟩
    have HB4 := Lib.hid (HB3.out.trans (hb1.mono HB3.out.size))
    clear hb1 HB3
    go_wp2_with (go_at_call 10; refine (HB.out _).mono ?_; rintro e w5 ⟨rfl, rfl⟩)
    go_ret
    exact ⟨rfl, HB4.out.alloc HB4.out.size _⟩
  have HB := Lib.hid (fun W => beyond3 (sumB L1) (sumB L2) x.size false (by simpa using gb) W)
  have HN0 := fun W => nameOk_any x g2' W
  have zf0 := gf0.1
  have zf1 := gf1.1
  clear gb g2
  by_cases gl0 : 50 < L1.length
  · clear HN0 gf0 gf1
    go_enter Tryd.func8, Tryd.ntmps8
    go_wp2_with fail
    refine H0.out.mono ?_
    rintro e w1 ⟨rfl, hb1⟩
    have HB1 := Lib.hid hb1
    clear hb1
    go_wp2_with fail
    refine (H1.out _ HB1.out).mono ?_
    rintro e w2 ⟨rfl, hb1⟩
    have HB2 := Lib.hid (HB1.out.trans (hb1.mono HB1.out.size))
    clear hb1 HB1
    go_wp2_with fail
    refine (HS0.out _ HB2.out).mono ?_
    rintro e w3 ⟨rfl, hb1⟩
    have HB3 := Lib.hid (HB2.out.trans (hb1.mono HB2.out.size))
    clear hb1 HB2
    go_wp2_with fail
    refine (HS1.out _ HB3.out).mono ?_
    rintro e w4 ⟨rfl, hb1⟩
    have HB4 := Lib.hid (HB3.out.trans (hb1.mono HB3.out.size))
    clear hb1 HB3
    go_wp2_with fail
    go_at_call 10
    refine (HB.out _).mono ?_
    rintro e wz ⟨rfl, rfl⟩
    have HB5 := Lib.hid (HB4.out.alloc HB4.out.size (.cells #[.int .i64 (sumB L1 : Int), .int .i64 (sumB L2 : Int), .int .i64 (x.size : Int)] 3))
    clear HB4
    go_wp2
    go_ret
    exact ⟨rfl, HB5.out⟩
  by_cases gl1 : 50 < L2.length
  · clear HN0 gf0 gf1
    go_enter Tryd.func8, Tryd.ntmps8
    go_wp2_with fail
    refine H0.out.mono ?_
    rintro e w1 ⟨rfl, hb1⟩
    have HB1 := Lib.hid hb1
    clear hb1
    go_wp2_with fail
    refine (H1.out _ HB1.out).mono ?_
    rintro e w2 ⟨rfl, hb1⟩
    have HB2 := Lib.hid (HB1.out.trans (hb1.mono HB1.out.size))
    clear hb1 HB1
    go_wp2_with fail
    refine (HS0.out _ HB2.out).mono ?_
    rintro e w3 ⟨rfl, hb1⟩
    have HB3 := Lib.hid (HB2.out.trans (hb1.mono HB2.out.size))
    clear hb1 HB2
    go_wp2_with fail
    refine (HS1.out _ HB3.out).mono ?_
    rintro e w4 ⟨rfl, hb1⟩
    have HB4 := Lib.hid (HB3.out.trans (hb1.mono HB3.out.size))
    clear hb1 HB3
    go_wp2_with fail
    go_at_call 10
    refine (HB.out _).mono ?_
    rintro e wz ⟨rfl, rfl⟩
    have HB5 := Lib.hid (HB4.out.alloc HB4.out.size (.cells #[.int .i64 (sumB L1 : Int), .int .i64 (sumB L2 : Int), .int .i64 (x.size : Int)] 3))
    clear HB4
    go_wp2
    go_ret
    exact ⟨rfl, HB5.out⟩
  have hl0 : L1.length ≤ 50 := by omega
  have hl1 : L2.length ≤ 50 := by omega
  cases hno : nameOk (bytes x)
  · rw [hno] at HN0
    have HK := Lib.hid HN0
    clear HN0 hno gf0 gf1
    go_enter Tryd.func8, Tryd.ntmps8
    go_wp2_with fail
    refine H0.out.mono ?_
    rintro e w1 ⟨rfl, hb1⟩
    have HB1 := Lib.hid hb1
    clear hb1
    go_wp2_with fail
    refine (H1.out _ HB1.out).mono ?_
    rintro e w2 ⟨rfl, hb1⟩
    have HB2 := Lib.hid (HB1.out.trans (hb1.mono HB1.out.size))
    clear hb1 HB1
    go_wp2_with fail
    refine (HS0.out _ HB2.out).mono ?_
    rintro e w3 ⟨rfl, hb1⟩
    have HB3 := Lib.hid (HB2.out.trans (hb1.mono HB2.out.size))
    clear hb1 HB2
    go_wp2_with fail
    refine (HS1.out _ HB3.out).mono ?_
    rintro e w4 ⟨rfl, hb1⟩
    have HB4 := Lib.hid (HB3.out.trans (hb1.mono HB3.out.size))
    clear hb1 HB3
    go_wp2_with fail
    go_at_call 10
    refine (HB.out _).mono ?_
    rintro e wz ⟨rfl, rfl⟩
    have HB5 := Lib.hid (HB4.out.alloc HB4.out.size (.cells #[.int .i64 (sumB L1 : Int), .int .i64 (sumB L2 : Int), .int .i64 (x.size : Int)] 3))
    clear HB4
    go_wp2_with ((with_reducible refine (HK.out _).mono ?_); rintro e w6 ⟨rfl, hb6⟩)
    go_ret
    exact ⟨rfl, HB5.out.trans (hb6.mono HB5.out.size)⟩
  rw [hno] at HN0
  have HK : Hid (∀ W, Below w.heap.size w W → Calls Tryd.prog 12 #[.string x] W (Ret (.bool true) W)) := fun W _ => HN0 W
  have HO0 : Hid (∀ W, Below w.heap.size w W → Calls Tryd.prog 20 #[.slice A0 L1.length c0, .string x] W (SaysPost (L1.map fun y => saysD y x) W)) := fun W hW => lawsDns_any A0 _ c0 L1 x W rfl gf0 g2' (R0.out.below hW)
  have HO1 : Hid (∀ W, Below w.heap.size w W → Calls Tryd.prog 20 #[.slice A1 L2.length c1, .string x] W (SaysPost (L2.map fun y => saysD y x) W)) := fun W hW => lawsDns_any A1 _ c1 L2 x W rfl gf1 g2' (R1.out.below hW)
  have hX : (L1.map fun y => saysD y x).length ≤ 2147483647 := by rw [List.length_map]; omega
  have hY : (L2.map fun y => saysD y x).length ≤ 2147483647 := by rw [List.length_map]; omega
  have HI : Hid (¬ (2 : Int) ∈ (L1.map fun y => saysD y x) → ¬ (2 : Int) ∈ (L2.map fun y => saysD y x) → ∀ W, Below w.heap.size w W → Calls Tryd.prog 24 #[.slice A0 L1.length c0, .slice A1 L2.length c1, .string x] W (Ret (.int .i64 (ruleV (L1.map fun y => saysD y x) (L2.map fun y => saysD y x))) W)) := fun t1 t2 W hW => by
    have n1 := namesE_of t1
    have n2 := namesE_of t2
    obtain ⟨d1, h1⟩ := exB (MetD L1 x)
    obtain ⟨d2, h2⟩ := exB (MetD L2 x)
    rw [refB_ruleD n1 n2 hno h1 h2]
    exact implCheckDNS_any A0 A1 _ c0 _ c1 L1 L2 x _ _ W hno rfl rfl zf0 zf1 M0.out M1.out (R0.out.below hW) (R1.out.below hW) (makes_names L1 zf0 n1 true x hno d1 h1) (makes_names L2 zf1 n2 false x hno d2 h2) _ rfl
  generalize (L1.map fun y => saysD y x) = X at HI HO0 hX
  generalize (L2.map fun y => saysD y x) = Y at HI HO1 hY
  have HR : Hid (∀ C D e1 e2 W, Rd W C (ints X) → Rd W D (ints Y) → Calls Tryd.prog 27 #[.slice C X.length e1, .slice D Y.length e2] W (SameE (.int .i64 (ruleV X Y)) W)) := fun C D e1 e2 W h1 h2 => rule_any C D _ _ e1 e2 X Y W rfl rfl hX hY h1 h2
  have HAn : Hid (∀ z W, Calls Tryd.prog 26 #[.int .i64 z, .int .i64 z] W (SameE (.bool true) W)) := fun z W => by
    have := answered_any z z W
    have e : answerB z z = true := by
      unfold answerB
      by_cases h1 : z = 1
      · rw [if_pos h1, h1]; rfl
      · rw [if_neg h1]
        by_cases h0 : z = 0
        · rw [if_pos h0, h0]; rfl
        · rw [if_neg h0]
    rwa [e] at this
  have HCX : Hid (∀ b, (b = true ↔ (2 : Int) ∈ X) → ∀ C e1 W, Rd W C (ints X) → Calls Tryd.prog 25 #[.slice C X.length e1, .int .i64 2] W (SameE (.bool b) W)) := fun b hb C e1 W h => containsI_any C _ e1 X 2 W rfl hX h b hb
  have HCY : Hid (∀ b, (b = true ↔ (2 : Int) ∈ Y) → ∀ C e1 W, Rd W C (ints Y) → Calls Tryd.prog 25 #[.slice C Y.length e1, .int .i64 2] W (SameE (.bool b) W)) := fun b hb C e1 W h => containsI_any C _ e1 Y 2 W rfl hY h b hb
  clear HN0 hno gf0 gf1 zf0 zf1 M0 M1 R0 R1
  go_enter Tryd.func8, Tryd.ntmps8
  go_wp2_with fail
  refine H0.out.mono ?_
  rintro e w1 ⟨rfl, hb1⟩
  have HB1 := Lib.hid hb1
  clear hb1
  go_wp2_with fail
  refine (H1.out _ HB1.out).mono ?_
  rintro e w2 ⟨rfl, hb1⟩
  have HB2 := Lib.hid (HB1.out.trans (hb1.mono HB1.out.size))
  clear hb1 HB1
  go_wp2_with fail
  refine (HS0.out _ HB2.out).mono ?_
  rintro e w3 ⟨rfl, hb1⟩
  have HB3 := Lib.hid (HB2.out.trans (hb1.mono HB2.out.size))
  clear hb1 HB2
  go_wp2_with fail
  refine (HS1.out _ HB3.out).mono ?_
  rintro e w4 ⟨rfl, hb1⟩
  have HB4 := Lib.hid (HB3.out.trans (hb1.mono HB3.out.size))
  clear hb1 HB3
  go_wp2_with fail
  go_at_call 10
  refine (HB.out _).mono ?_
  rintro e wz ⟨rfl, rfl⟩
  have HB5 := Lib.hid (HB4.out.alloc HB4.out.size (.cells #[.int .i64 (sumB L1 : Int), .int .i64 (sumB L2 : Int), .int .i64 (x.size : Int)] 3))
  clear HB4
  go_wp2_with fail
  refine (HK.out _ HB5.out).mono ?_
  rintro e w6 ⟨rfl, hb1⟩
  have HB6 := Lib.hid (HB5.out.trans (hb1.mono HB5.out.size))
  clear hb1 HB5
  go_wp2_with fail
  refine (HO0.out _ HB6.out).mono ?_
  rintro e w8 ⟨C, e1, rfl, hrd, hb8⟩
  have HB8 := Lib.hid (HB6.out.trans (hb8.mono HB6.out.size))
  have HR8 := Lib.hid hrd
  clear hb8 hrd HB6
  go_wp2_with fail
  refine (HO1.out _ HB8.out).mono ?_
  rintro e w9 ⟨D, e2, rfl, hrd, hb9⟩
  have HB9 := Lib.hid (HB8.out.trans (hb9.mono HB8.out.size))
  have HRX := Lib.hid (HR8.out.below hb9)
  have HRY := Lib.hid hrd
  clear hb9 hrd HB8 HR8
  obtain ⟨bx, hbx⟩ := exB ((2 : Int) ∈ X)
  obtain ⟨by2, hby⟩ := exB ((2 : Int) ∈ Y)
  have K1 := Lib.hid (HCX.out bx hbx C e1 w9 HRX.out)
  have K2 := Lib.hid (HCY.out by2 hby D e2 w9 HRY.out)
  cases bx
  · cases by2
    · have HI2 := Lib.hid (HI.out (fun h => by have := hbx.2 h; cases this) (fun h => by have := hby.2 h; cases this) w9 HB9.out)
      clear hbx hby HCX HCY HI
      go_wp2_with (first | ((with_reducible refine K1.out.mono ?_); rintro e w10 ⟨rfl, rfl⟩) | ((with_reducible refine K2.out.mono ?_); rintro e w11 ⟨rfl, rfl⟩) | fail)
      refine HI2.out.mono ?_
      rintro e w12 ⟨rfl, hb12⟩
      have HB12 := Lib.hid (HB9.out.trans (hb12.mono HB9.out.size))
      have HRu := Lib.hid (HR.out C D e1 e2 w12 (HRX.out.below hb12) (HRY.out.below hb12))
      clear hb12 HI2 K1 K2 HRX HRY HB9 HR
      go_wp2_with (first | ((with_reducible refine HRu.out.mono ?_); rintro e w10 ⟨rfl, rfl⟩) | ((with_reducible refine (HAn.out _ _).mono ?_); rintro e w11 ⟨rfl, rfl⟩))
      go_ret
      exact ⟨rfl, HB12.out⟩
    · clear hbx hby HCX HCY HI
      go_wp2_with (first | ((with_reducible refine K1.out.mono ?_); rintro e w10 ⟨rfl, rfl⟩) | ((with_reducible refine K2.out.mono ?_); rintro e w11 ⟨rfl, rfl⟩))
      go_ret
      exact ⟨rfl, HB9.out⟩
  · clear hbx hby HCX HCY HI
    go_wp2_with ((with_reducible refine K1.out.mono ?_); rintro e w10 ⟨rfl, rfl⟩)
    go_ret
    exact ⟨rfl, HB9.out⟩

set_option maxRecDepth 100000 in
set_option linter.unusedVariables false in
theorem fnCheckDNS_lifted (os : Os) (started : os.Started) (H : Type) (enc : TypeId × Value → H) :
    ReturnsInHanded {} Tryd.checked os 8 .any (fun w args => (Rows.fnCheckDNSSpec.pre enc Tryd.prog Tryd.f8 Rows.fnCheckDNSRow.domain false w args ∧ laidMetH Tryd.prog Rows.fnCheckDNSRow.laid w) ∧ sizedMet enc Tryd.prog Tryd.f8 (OpenSpec.ofChange Rows.fnCheckDNSSpec) false w args) (Rows.fnCheckDNSSpec.post enc Tryd.prog Tryd.f8 false true false false) := by
  refine returnsInHanded_of_change_and (C := Tryd.checked) (X := fun w _ => laidMetH Tryd.prog Rows.fnCheckDNSRow.laid w) (fun _ _ _ hh h => h.of_heap hh) own started (by kernel_rfl) Tryd.func8
    (ChangeSpec.witness_shaped (enc := enc) (C := Tryd.checked) (os := os) (X := fun w _ => laidMetH Tryd.prog Rows.fnCheckDNSRow.laid w) false (World.laidAll Tryd.prog os Rows.fnCheckDNSRow.laid) #[.slice none 0 0, .slice none 0 0, .string ByteArray.empty] 8 (World.laidAll_os _ _ _)
      (World.shaped_of_ZipB (by kernel_rfl) (by kernel_rfl)) (by kernel_rfl) (by kernel_rfl) (by kernel_rfl)
      (by rw [MakeChecks.laidMetH_plain _ _ _ (by kernel_rfl)]; exact laidMet_laidAll _ (by kernel_rfl) (by kernel_rfl))) ?_
  intro W base args ds gs before hval0 hW hcnd _ hL _
  have hval : ∀ (j : Nat) t v, Tryd.f8.params[j]? = some t → args[j]? = some v → Value.okWide Tryd.prog W .any base t v := hval0
  have hW' := hW
  obtain ⟨p, q, hA0, hV, rfl, hfz, hnd⟩ := hW
  have hA : DataW.TrodAll enc Tryd.prog W 0 (fun _ => true) true Tryd.f8.params.toList args.toList ds p := hA0
  rw [Tryd.params8] at hA hval
  obtain ⟨v0, vs0, d0, ds0, p0, q0, hargs, rfl, rfl, h0, r0⟩ := trodAll_cons hA
  obtain ⟨v1, vs1, d1, ds1, p1, q1, rfl, rfl, rfl, h1, r1⟩ := trodAll_cons r0
  obtain ⟨v2, vs2, d2, ds2, p2, q2, rfl, rfl, rfl, h2, r2⟩ := trodAll_cons r1
  obtain ⟨rfl, rfl, rfl⟩ := trodAll_nil r2
  obtain rfl : args = #[v0, v1, v2] := by cases args; simp_all
  obtain ⟨rfl, rfl⟩ := trodVars_none hV
  have k0 := h0
  have lt0 : ∀ x ∈ p0, x.block < W.heap.size := by obtain ⟨m, hm⟩ := k0; exact DataW.trod_lt m _ _ _ hm
  obtain ⟨A0, n0, c0, bs0, rfl, w0⟩ := opened_strings (hval 0 24 v0 rfl rfl) h0
  have k1 := h1
  have lt1 : ∀ x ∈ p1, x.block < W.heap.size := by obtain ⟨m, hm⟩ := k1; exact DataW.trod_lt m _ _ _ hm
  obtain ⟨A1, n1, c1, bs1, rfl, w1⟩ := opened_strings (hval 1 24 v1 rfl rfl) h1
  obtain ⟨a2, rfl, rfl, rfl, w2⟩ := open_string Tryd.underlying9 (hval 2 9 v2 rfl rfl) h2
  clear hA0 hval0
  refine (fnCheckDNS_walk (w := W) A0 n0 c0 bs0 w0 A1 n1 c1 bs1 w1 a2 w2).mono fun e W' ⟨he, bel⟩ => ?_
  subst he
  exact ⟨_, rfl, _, _, _, [], _, [], hW', trodAll_mk1 (shut_bool Tryd.underlying4 _), (trodAll_cons_mk (Below.trod laidOut (by kernel_rfl) (of_decide_eq_true (by kernel_rfl)) k0 bel lt0) (trodAll_cons_mk (Below.trod laidOut (by kernel_rfl) (of_decide_eq_true (by kernel_rfl)) k1 bel lt1) (trodAll_cons_mk (shut_string Tryd.underlying9 w2) trodAll_mk0))), rfl, bel.frame _, fun h => by cases h⟩
theorem fnCheckDNS_facts : joinedFacts Tryd.prog 8 Tryd.f8 Rows.fnCheckDNSSpec Rows.fnCheckDNSRow = true :=
  facts_of rfl head_enter head_lifts head_make rfl rfl (by kernel_rfl) (by kernel_rfl) (by kernel_rfl) (by kernel_rfl) (by kernel_rfl)
set_option maxRecDepth 100000 in
theorem fnCheckDNS_row : Rows.FnCheckDNSSaid :=
  OpenClaim.holds_of_wide 8 Tryd.f8 rfl rfl rfl rfl rfl rfl rfl ⟨rfl, rfl, rfl, rfl, rfl⟩ rfl rfl rfl rfl rfl (by kernel_rfl) Tryd.func8 fnCheckDNS_facts
    (of_decide_eq_true (by kernel_rfl)) (by unfold Func.isWrapper; first | (rw [if_pos (by decide +kernel)]; kernel_rfl) | (rw [if_neg (by decide +kernel)]; exact ⟨rfl, rfl⟩))
    (fun os started H enc _ => fnCheckDNS_lifted os started H enc)
set_option maxRecDepth 100000 in
theorem fnCheckDNS_holds : Rows.FnCheckDNSCardSaid :=
  Claim7.holds_tied_plain_at .later [] [.data, .pinned, .pinned] true (true, "47dc8390ac227de7a865ba6f089e7475486b30b73b4649b8ec8f28900be40170") false fnCheckDNS_row (fun _ h => by cases h) (by kernel_rfl) (fun _ h => by cases h) fnCheckDNS_row_tie rfl ⟨rfl, rfl⟩ (by kernel_rfl) rfl
    (fun f fn hf hfn => by
      obtain rfl : f = 8 := Option.some.inj ((show Tryd.prog.funcNamed "loop.example/pub-g03129/laws.FnCheckDNS" = some 8 by kernel_rfl).symm.trans hf) |>.symm
      obtain rfl : fn = Tryd.f8 := (Option.some.inj (Tryd.func8.symm.trans hfn)).symm
      exact ⟨by kernel_rfl, fun j t ht => by
        rw [Tryd.params8] at ht
        have hm : t ∈ [24, 24, 9] := by simpa using Array.mem_of_getElem? ht
        have hall : ([24, 24, 9].all fun u => !Tryd.prog.wantsStandIn u) = true := by kernel_rfl
        exact (show Tryd.prog.wantsStandIn t = false by simpa using List.all_eq_true.1 hall t hm)⟩)
    (by kernel_rfl)
end Go.Proofs.YtdinnpjplgkffaaDoor
