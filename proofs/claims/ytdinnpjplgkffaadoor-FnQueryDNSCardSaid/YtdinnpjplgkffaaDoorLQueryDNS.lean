/-
  FnQueryDNS holds: a name meets one of some constraints just where it is one of these, whatever the case, or has labels more ahead of one; each name meets the constraint of nothing. For every input; no condition of ours. And its tied card.
-/
import Derived.Test.YtdinnpjplgkffaaDoorE9
import Derived.Deep.RegionHeld3
import Derived.Test.YtdinnpjplgkffaaDoorTie
import Derived.Test.YtdinnpjplgkffaaDoorCards
import Derived.LaidMore
import Derived.Lay
import Derived.SevenTiedAt
import Derived.Stop.Joined
namespace Go.Proofs.YtdinnpjplgkffaaDoor
open Go.ChangeShapes Go.WideShapes Go.ChangeAt Go.RowKit
open Go.ChangeMaps (open_string shut_string)
theorem HeldN.old {w W : World} {x : ByteArray} (h : HeldN w x W) : Below w.heap.size w W := h.2
set_option maxRecDepth 100000 in
set_option maxHeartbeats 8000000 in
theorem fnQueryDNS_walk {w : World} (A0 : Option Addr) (n0 c0 : Nat) (L : List ByteArray) (t0 : TextsR w A0 n0 c0 L) (pm : Bool) (x : ByteArray) (hx0 : x.size ≤ maxLen) :
    Calls Tryd.prog 5 #[.slice A0 n0 c0, .bool pm, .string x] w (Ret (.bool true) w) := by
  obtain ⟨rfl, a0, b0, d0, f0, r0⟩ := t0
  have R0 := Lib.hid r0
  have M0 := Lib.hid d0
  have ml0 : L.length ≤ maxLen := Nat.le_trans a0 b0
  have F0 := Lib.hid (fun b hb W (hW : Below w.heap.size w W) => fits_any A0 _ c0 L W b hb rfl ml0 f0 (r0.below hW))
  have HB0 := Lib.hid (HeldN.start w x)
  clear r0 d0 f0
  unfold maxLen at *
  by_cases gf0 : fitsP L
  rotate_left
  · have HK : Hid (∀ W, Below w.heap.size w W → Calls Tryd.prog 15 #[.slice A0 L.length c0] W (Ret (.bool false) W)) := fun W hW => F0.out false ⟨fun e => (by cases e), fun e => absurd e gf0⟩ W hW
    go_enter Tryd.func5, Tryd.ntmps5
    go_wp2_with fail
    refine (HK.out _ HB0.out.2).mono ?_
    rintro e w1 ⟨rfl, hb1⟩
    have HB1 := Lib.hid (HB0.out.next hb1)
    try clear k0
    have k0 := HB1.out.1
    clear hb1
    go_wp2
    go_ret
    exact ⟨rfl, HB1.out.2⟩
  have G0 : Hid (∀ W, Below w.heap.size w W → Calls Tryd.prog 15 #[.slice A0 L.length c0] W (Ret (.bool true) W)) := fun W hW => F0.out true ⟨fun _ => gf0, fun _ => rfl⟩ W hW
  have GF := Lib.hid gf0
  have zf := gf0.1
  clear F0 gf0
  by_cases g2 : 2147483647 < x.size
  · go_enter Tryd.func5, Tryd.ntmps5
    go_wp2_with fail
    refine (G0.out _ HB0.out.2).mono ?_
    rintro e w1 ⟨rfl, hb1⟩
    have HB1 := Lib.hid (HB0.out.next hb1)
    try clear k0
    have k0 := HB1.out.1
    clear hb1
    go_wp2
    go_ret
    exact ⟨rfl, HB1.out.2⟩
  have sx : x.size ≤ 2147483647 := by omega
  clear g2
  have HS : Hid (∀ W, Below w.heap.size w W → Calls Tryd.prog 16 #[.slice A0 L.length c0] W (Ret (.int .i64 (sumB L)) W)) := fun W hW => sum_any A0 _ c0 L W GF.out rfl (R0.out.below hW)
  by_cases gb : 1048576 < sumB L ∨ 1048576 < x.size
  · have HB := Lib.hid (fun W => beyond2 (sumB L) x.size true (by simpa using gb) W)
    clear gb
    go_enter Tryd.func5, Tryd.ntmps5
    go_wp2_with fail
    refine (G0.out _ HB0.out.2).mono ?_
    rintro e w1 ⟨rfl, hb1⟩
    have HB1 := Lib.hid (HB0.out.next hb1)
    try clear k0
    have k0 := HB1.out.1
    clear hb1
    go_wp2_with fail
    go_region_held3 (fun W' => W'.cell? ⟨w.heap.size, 0, none⟩ = some (.string x) ∧ HeldN w x W')
      (first | exact HeldN.held (HB1.out.next ((Below.refl _ _).drew)) | exact HeldN.held (by assumption) | exact HeldN.held (HeldN.next (by assumption) (Below.one _ _)))
      (first | (go_split_ands; (with_reducible refine (HS.out _ (HeldN.old (by assumption))).mono ?_); rintro e wa ⟨rfl, hba⟩; have hsa := HeldN.next (by assumption) hba) | (go_split_ands; (with_reducible refine (HB.out _).mono ?_); rintro e wz ⟨rfl, rfl⟩))
    go_split_ands
    go_wp2
    go_ret
    exact ⟨rfl, HeldN.old (by assumption)⟩
  have HB := Lib.hid (fun W => beyond2 (sumB L) x.size false (by simpa using gb) W)
  clear gb
  by_cases gl : 50 < L.length
  · go_enter Tryd.func5, Tryd.ntmps5
    go_wp2_with fail
    refine (G0.out _ HB0.out.2).mono ?_
    rintro e w1 ⟨rfl, hb1⟩
    have HB1 := Lib.hid (HB0.out.next hb1)
    try clear k0
    have k0 := HB1.out.1
    clear hb1
    go_wp2_with fail
    go_region_held3 (fun W' => W'.cell? ⟨w.heap.size, 0, none⟩ = some (.string x) ∧ HeldN w x W')
      (first | exact HeldN.held (HB1.out.next ((Below.refl _ _).drew)) | exact HeldN.held (by assumption) | exact HeldN.held (HeldN.next (by assumption) (Below.one _ _)))
      (first | (go_split_ands; (with_reducible refine (HS.out _ (HeldN.old (by assumption))).mono ?_); rintro e wa ⟨rfl, hba⟩; have hsa := HeldN.next (by assumption) hba) | (go_split_ands; (with_reducible refine (HB.out _).mono ?_); rintro e wz ⟨rfl, rfl⟩))
    go_split_ands
    go_wp2
    go_ret
    exact ⟨rfl, HeldN.old (by assumption)⟩
  cases hno : nameOk (bytes x)
  · have HK : Hid (∀ W, Below w.heap.size w W → Calls Tryd.prog 12 #[.string x] W (Ret (.bool false) W)) := fun W _ => by have h := nameOk_any x sx W; rw [hno] at h; exact h
    clear hno
    go_enter Tryd.func5, Tryd.ntmps5
    go_wp2_with fail
    refine (G0.out _ HB0.out.2).mono ?_
    rintro e w1 ⟨rfl, hb1⟩
    have HB1 := Lib.hid (HB0.out.next hb1)
    try clear k0
    have k0 := HB1.out.1
    clear hb1
    go_wp2_with fail
    go_region_held3 (fun W' => W'.cell? ⟨w.heap.size, 0, none⟩ = some (.string x) ∧ HeldN w x W')
      (first | exact HeldN.held (HB1.out.next ((Below.refl _ _).drew)) | exact HeldN.held (by assumption) | exact HeldN.held (HeldN.next (by assumption) (Below.one _ _)))
      (first | (go_split_ands; (with_reducible refine (HS.out _ (HeldN.old (by assumption))).mono ?_); rintro e wa ⟨rfl, hba⟩; have hsa := HeldN.next (by assumption) hba) | (go_split_ands; (with_reducible refine (HB.out _).mono ?_); rintro e wz ⟨rfl, rfl⟩))
    go_split_ands
    have HB2 := Lib.hid (show HeldN w x _ by assumption)
    have k1 := HB2.out.1
    go_wp2_with fail
    refine (HK.out _ HB2.out.2).mono ?_
    rintro e w3 ⟨rfl, hb1⟩
    have HB3 := Lib.hid (HB2.out.next hb1)
    try clear k0
    have k0 := HB3.out.1
    clear hb1
    go_wp2
    go_ret
    exact ⟨rfl, HB3.out.2⟩
  have HN : Hid (∀ W, Below w.heap.size w W → Calls Tryd.prog 12 #[.string x] W (Ret (.bool true) W)) := fun W _ => by have h := nameOk_any x sx W; rw [hno] at h; exact h
  have HO : Hid (∀ W, Below w.heap.size w W → Calls Tryd.prog 20 #[.slice A0 L.length c0, .string x] W (SaysPost (L.map fun y => saysD y x) W)) := fun W hW => lawsDns_any A0 _ c0 L x W rfl GF.out sx (R0.out.below hW)
  have HCF : Hid (∀ b, (b = true ↔ (2 : Int) ∈ L.map fun y => saysD y x) → ∀ W, HeldN w x W → Calls Tryd.prog 21 #[.slice A0 L.length c0, .func (.func 22) #[] #[.pointer (some ⟨w.heap.size, 0, none⟩)]] W (Ret (.bool b) W)) := fun b hb W hW => containsF_any A0 _ c0 L x w.heap.size W rfl GF.out sx (R0.out.below hW.2) hW.1 b hb
  have HQ : Hid (¬ (2 : Int) ∈ (L.map fun y => saysD y x) → ∃ b, fnd (L.map fun y => saysD y x) = (if b = true then 1 else 0) ∧ ∀ W, Below w.heap.size w W → Calls Tryd.prog 18 #[.slice A0 L.length c0, .bool pm, .string x] W (Ret (.bool b) W)) := fun t => by
    have n1 := namesE_of t
    obtain ⟨b, hb⟩ := exB (MetD L x)
    exact ⟨b, fnd_metD n1 hno hb, fun W hW => implQueryDNS_any A0 _ c0 L pm x W hno rfl zf n1 M0.out (R0.out.below hW) b hb⟩
  have hX : (L.map fun y => saysD y x).length ≤ 2147483647 := by rw [List.length_map]; omega
  generalize (L.map fun y => saysD y x) = X at HO HCF HQ hX
  have HAny : Hid (∀ A c W, Rd W A (ints X) → Calls Tryd.prog 19 #[.slice A X.length c] W (SameE (.int .i64 (fnd X)) W)) := fun A c W h => any_any A _ c X W rfl hX h
  have hc : fnd X = 2 ∨ (((fnd X == 2) = false) ∧ (2 : Int) ∈ X) ∨ (((fnd X == 2) = false) ∧ ¬ (2 : Int) ∈ X) := by
    by_cases h : fnd X = 2
    · exact .inl h
    · have h' : (fnd X == 2) = false := by rw [beq_eq_false_iff_ne]; exact h
      by_cases h2 : (2 : Int) ∈ X
      · exact .inr (.inl ⟨h', h2⟩)
      · exact .inr (.inr ⟨h', h2⟩)
  clear hno
  rcases hc with hz | ⟨hz, h2⟩ | ⟨hz, h2⟩
  · rw [hz] at HAny
    clear HQ HCF hz
    go_enter Tryd.func5, Tryd.ntmps5
    go_wp2_with fail
    refine (G0.out _ HB0.out.2).mono ?_
    rintro e w1 ⟨rfl, hb1⟩
    have HB1 := Lib.hid (HB0.out.next hb1)
    try clear k0
    have k0 := HB1.out.1
    clear hb1
    go_wp2_with fail
    go_region_held3 (fun W' => W'.cell? ⟨w.heap.size, 0, none⟩ = some (.string x) ∧ HeldN w x W')
      (first | exact HeldN.held (HB1.out.next ((Below.refl _ _).drew)) | exact HeldN.held (by assumption) | exact HeldN.held (HeldN.next (by assumption) (Below.one _ _)))
      (first | (go_split_ands; (with_reducible refine (HS.out _ (HeldN.old (by assumption))).mono ?_); rintro e wa ⟨rfl, hba⟩; have hsa := HeldN.next (by assumption) hba) | (go_split_ands; (with_reducible refine (HB.out _).mono ?_); rintro e wz ⟨rfl, rfl⟩))
    go_split_ands
    have HB2 := Lib.hid (show HeldN w x _ by assumption)
    go_wp2_with fail
    refine (HN.out _ HB2.out.2).mono ?_
    rintro e w3 ⟨rfl, hb1⟩
    have HB3 := Lib.hid (HB2.out.next hb1)
    try clear k0
    have k0 := HB3.out.1
    clear hb1
    go_wp2_with fail
    refine (HO.out _ HB3.out.2).mono ?_
    rintro e w4 ⟨C, d, rfl, hrd, hb4⟩
    have HB4 := Lib.hid (HB3.out.next hb4)
    have HA := Lib.hid (HAny.out C d w4 hrd)
    clear hb4 hrd
    go_wp2_with ((with_reducible refine HA.out.mono ?_); rintro e w5 ⟨rfl, rfl⟩)
    go_ret
    exact ⟨rfl, HB4.out.2⟩
  · have HC2 := Lib.hid (HCF.out true ⟨fun _ => h2, fun _ => rfl⟩)
    clear HQ HCF h2
    go_enter Tryd.func5, Tryd.ntmps5
    go_wp2_with fail
    refine (G0.out _ HB0.out.2).mono ?_
    rintro e w1 ⟨rfl, hb1⟩
    have HB1 := Lib.hid (HB0.out.next hb1)
    try clear k0
    have k0 := HB1.out.1
    clear hb1
    go_wp2_with fail
    go_region_held3 (fun W' => W'.cell? ⟨w.heap.size, 0, none⟩ = some (.string x) ∧ HeldN w x W')
      (first | exact HeldN.held (HB1.out.next ((Below.refl _ _).drew)) | exact HeldN.held (by assumption) | exact HeldN.held (HeldN.next (by assumption) (Below.one _ _)))
      (first | (go_split_ands; (with_reducible refine (HS.out _ (HeldN.old (by assumption))).mono ?_); rintro e wa ⟨rfl, hba⟩; have hsa := HeldN.next (by assumption) hba) | (go_split_ands; (with_reducible refine (HB.out _).mono ?_); rintro e wz ⟨rfl, rfl⟩))
    go_split_ands
    have HB2 := Lib.hid (show HeldN w x _ by assumption)
    go_wp2_with fail
    refine (HN.out _ HB2.out.2).mono ?_
    rintro e w3 ⟨rfl, hb1⟩
    have HB3 := Lib.hid (HB2.out.next hb1)
    try clear k0
    have k0 := HB3.out.1
    clear hb1
    go_wp2_with fail
    refine (HO.out _ HB3.out.2).mono ?_
    rintro e w4 ⟨C, d, rfl, hrd, hb4⟩
    have HB4 := Lib.hid (HB3.out.next hb4)
    have HA := Lib.hid (HAny.out C d w4 hrd)
    have HCw := Lib.hid (HC2.out w4 HB4.out)
    clear hb4 hrd
    go_wp2_with (first | ((with_reducible refine HA.out.mono ?_); rintro e w5 ⟨rfl, rfl⟩) | ((with_reducible refine HCw.out.mono ?_); rintro e w6 ⟨rfl, hb6⟩))
    go_ret
    exact ⟨rfl, (HB4.out.next hb6).2⟩
  · have HC2 := Lib.hid (HCF.out false ⟨fun e => (by cases e), fun e => absurd e h2⟩)
    obtain ⟨b, hfb, hq⟩ := HQ.out h2
    have HQ2 := Lib.hid hq
    rw [hfb] at HAny hz
    clear HQ HCF h2 hq hfb
    cases b
    all_goals
      go_enter Tryd.func5, Tryd.ntmps5
      go_wp2_with fail
      refine (G0.out _ HB0.out.2).mono ?_
      rintro e w1 ⟨rfl, hb1⟩
      have HB1 := Lib.hid (HB0.out.next hb1)
      try clear k0
      have k0 := HB1.out.1
      clear hb1
      go_wp2_with fail
      go_region_held3 (fun W' => W'.cell? ⟨w.heap.size, 0, none⟩ = some (.string x) ∧ HeldN w x W')
        (first | exact HeldN.held (HB1.out.next ((Below.refl _ _).drew)) | exact HeldN.held (by assumption) | exact HeldN.held (HeldN.next (by assumption) (Below.one _ _)))
        (first | (go_split_ands; (with_reducible refine (HS.out _ (HeldN.old (by assumption))).mono ?_); rintro e wa ⟨rfl, hba⟩; have hsa := HeldN.next (by assumption) hba) | (go_split_ands; (with_reducible refine (HB.out _).mono ?_); rintro e wz ⟨rfl, rfl⟩))
      go_split_ands
      have HB2 := Lib.hid (show HeldN w x _ by assumption)
      go_wp2_with fail
      refine (HN.out _ HB2.out.2).mono ?_
      rintro e w3 ⟨rfl, hb1⟩
      have HB3 := Lib.hid (HB2.out.next hb1)
      try clear k0
      have k0 := HB3.out.1
      clear hb1
      go_wp2_with fail
      refine (HO.out _ HB3.out.2).mono ?_
      rintro e w4 ⟨C, d, rfl, hrd, hb4⟩
      have HB4 := Lib.hid (HB3.out.next hb4)
      have k4 := HB4.out.1
      have HA := Lib.hid (HAny.out C d w4 hrd)
      have HCw := Lib.hid (HC2.out w4 HB4.out)
      clear hb4 hrd
      go_wp2_with (first | ((with_reducible refine HA.out.mono ?_); rintro e w5 ⟨rfl, rfl⟩) | fail)
      refine HCw.out.mono ?_
      rintro e w6 ⟨rfl, hb6⟩
      have HB6 := Lib.hid (HB4.out.next hb6)
      have k6 := HB6.out.1
      have HQw := Lib.hid (HQ2.out w6 HB6.out.2)
      clear hb6
      go_wp2_with ((with_reducible refine HQw.out.mono ?_); rintro e w7 ⟨rfl, hb7⟩)
      go_ret
      exact ⟨rfl, (HB6.out.next hb7).2⟩

set_option maxRecDepth 100000 in
set_option linter.unusedVariables false in
theorem fnQueryDNS_lifted (os : Os) (started : os.Started) (H : Type) (enc : TypeId × Value → H) :
    ReturnsInHanded {} Tryd.checked os 5 .any (fun w args => (Rows.fnQueryDNSSpec.pre enc Tryd.prog Tryd.f5 Rows.fnQueryDNSRow.domain false w args ∧ laidMetH Tryd.prog Rows.fnQueryDNSRow.laid w) ∧ sizedMet enc Tryd.prog Tryd.f5 (OpenSpec.ofChange Rows.fnQueryDNSSpec) false w args) (Rows.fnQueryDNSSpec.post enc Tryd.prog Tryd.f5 false true false false) := by
  refine returnsInHanded_of_change_and (C := Tryd.checked) (X := fun w _ => laidMetH Tryd.prog Rows.fnQueryDNSRow.laid w) (fun _ _ _ hh h => h.of_heap hh) own started (by kernel_rfl) Tryd.func5
    (ChangeSpec.witness_shaped (enc := enc) (C := Tryd.checked) (os := os) (X := fun w _ => laidMetH Tryd.prog Rows.fnQueryDNSRow.laid w) false (World.laidAll Tryd.prog os Rows.fnQueryDNSRow.laid) #[.slice none 0 0, .bool false, .string ByteArray.empty] 8 (World.laidAll_os _ _ _)
      (World.shaped_of_ZipB (by kernel_rfl) (by kernel_rfl)) (by kernel_rfl) (by kernel_rfl) (by kernel_rfl)
      (by rw [MakeChecks.laidMetH_plain _ _ _ (by kernel_rfl)]; exact laidMet_laidAll _ (by kernel_rfl) (by kernel_rfl))) ?_
  intro W base args ds gs before hval0 hW hcnd _ hL _
  have hval : ∀ (j : Nat) t v, Tryd.f5.params[j]? = some t → args[j]? = some v → Value.okWide Tryd.prog W .any base t v := hval0
  have hW' := hW
  obtain ⟨p, q, hA0, hV, rfl, hfz, hnd⟩ := hW
  have hA : DataW.TrodAll enc Tryd.prog W 0 (fun _ => true) true Tryd.f5.params.toList args.toList ds p := hA0
  rw [Tryd.params5] at hA hval
  obtain ⟨v0, vs0, d0, ds0, p0, q0, hargs, rfl, rfl, h0, r0⟩ := trodAll_cons hA
  obtain ⟨v1, vs1, d1, ds1, p1, q1, rfl, rfl, rfl, h1, r1⟩ := trodAll_cons r0
  obtain ⟨v2, vs2, d2, ds2, p2, q2, rfl, rfl, rfl, h2, r2⟩ := trodAll_cons r1
  obtain ⟨rfl, rfl, rfl⟩ := trodAll_nil r2
  obtain rfl : args = #[v0, v1, v2] := by cases args; simp_all
  obtain ⟨rfl, rfl⟩ := trodVars_none hV
  have k0 := h0
  have lt0 : ∀ x ∈ p0, x.block < W.heap.size := by obtain ⟨m, hm⟩ := k0; exact DataW.trod_lt m _ _ _ hm
  obtain ⟨A0, n0, c0, bs0, rfl, w0⟩ := opened_strings (hval 0 24 v0 rfl rfl) h0
  obtain ⟨a1, rfl, rfl, rfl⟩ := open_bool Tryd.underlying4 (hval 1 4 v1 rfl rfl) h1
  obtain ⟨a2, rfl, rfl, rfl, w2⟩ := open_string Tryd.underlying9 (hval 2 9 v2 rfl rfl) h2
  clear hA0 hval0
  refine (fnQueryDNS_walk (w := W) A0 n0 c0 bs0 w0 a1 a2 w2).mono fun e W' ⟨he, bel⟩ => ?_
  subst he
  exact ⟨_, rfl, _, _, _, [], _, [], hW', trodAll_mk1 (shut_bool Tryd.underlying4 _), (trodAll_cons_mk (Below.trod laidOut (by kernel_rfl) (of_decide_eq_true (by kernel_rfl)) k0 bel lt0) (trodAll_cons_mk (shut_bool Tryd.underlying4 a1) (trodAll_cons_mk (shut_string Tryd.underlying9 w2) trodAll_mk0))), rfl, bel.frame _, fun h => by cases h⟩
theorem fnQueryDNS_facts : joinedFacts Tryd.prog 5 Tryd.f5 Rows.fnQueryDNSSpec Rows.fnQueryDNSRow = true :=
  facts_of rfl head_enter head_lifts head_make rfl rfl (by kernel_rfl) (by kernel_rfl) (by kernel_rfl) (by kernel_rfl) (by kernel_rfl)
set_option maxRecDepth 100000 in
theorem fnQueryDNS_row : Rows.FnQueryDNSSaid :=
  OpenClaim.holds_of_wide 5 Tryd.f5 rfl rfl rfl rfl rfl rfl rfl ⟨rfl, rfl, rfl, rfl, rfl⟩ rfl rfl rfl rfl rfl (by kernel_rfl) Tryd.func5 fnQueryDNS_facts
    (of_decide_eq_true (by kernel_rfl)) (by unfold Func.isWrapper; first | (rw [if_pos (by decide +kernel)]; kernel_rfl) | (rw [if_neg (by decide +kernel)]; exact ⟨rfl, rfl⟩))
    (fun os started H enc _ => fnQueryDNS_lifted os started H enc)
set_option maxRecDepth 100000 in
theorem fnQueryDNS_holds : Rows.FnQueryDNSCardSaid :=
  Claim7.holds_tied_plain_at .later [] [.data, .pinned, .pinned] true (true, "47dc8390ac227de7a865ba6f089e7475486b30b73b4649b8ec8f28900be40170") false fnQueryDNS_row (fun _ h => by cases h) (by kernel_rfl) (fun _ h => by cases h) fnQueryDNS_row_tie rfl ⟨rfl, rfl⟩ (by kernel_rfl) rfl
    (fun f fn hf hfn => by
      obtain rfl : f = 5 := Option.some.inj ((show Tryd.prog.funcNamed "loop.example/pub-g03129/laws.FnQueryDNS" = some 5 by kernel_rfl).symm.trans hf) |>.symm
      obtain rfl : fn = Tryd.f5 := (Option.some.inj (Tryd.func5.symm.trans hfn)).symm
      exact ⟨by kernel_rfl, fun j t ht => by
        rw [Tryd.params5] at ht
        have hm : t ∈ [24, 4, 9] := by simpa using Array.mem_of_getElem? ht
        have hall : ([24, 4, 9].all fun u => !Tryd.prog.wantsStandIn u) = true := by kernel_rfl
        exact (show Tryd.prog.wantsStandIn t = false by simpa using List.all_eq_true.1 hall t hm)⟩)
    (by kernel_rfl)
end Go.Proofs.YtdinnpjplgkffaaDoor
