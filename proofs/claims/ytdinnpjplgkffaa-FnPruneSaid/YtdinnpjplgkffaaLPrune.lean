/-
  FnPrune holds: of constraints those are left that no other one covers. For every input; no condition.
-/
import Derived.Test.YtdinnpjplgkffaaPPrune
namespace Go.Proofs.Ytdinnpjplgkffaa
open Go.ChangeShapes Go.WideShapes Go.ChangeAt Go.RowKit
open Go.ChangeMaps (open_string shut_string)

theorem exB (p : Prop) : ∃ b : Bool, b = true ↔ p := by
  by_cases h : p
  · exact ⟨true, by simp [h]⟩
  · exact ⟨false, by simp [h]⟩
set_option maxRecDepth 100000 in
set_option maxHeartbeats 4000000 in
theorem fnPrune_walk {w : World} (A0 : Option Addr) (n0 c0 : Nat) (bs : List ByteArray) (w0 : TextsR w A0 n0 c0 bs) (x : ByteArray) (hx0 : x.size ≤ maxLen) :
    Calls Try.prog 3 #[.slice A0 n0 c0, .string x] w (Ret (.bool true) w) := by
  obtain ⟨rfl, m1, m2, m3, m4, r0⟩ := w0
  have R0 := Lib.hid r0
  have M3 := Lib.hid m3
  have hml : bs.length ≤ maxLen := Nat.le_trans m1 m2
  have HF0 := fun b hb => fits_any A0 _ c0 bs w b hb rfl hml m4 r0
  unfold maxLen at hx0 m2 hml
  clear r0 m3 m4
  by_cases gf0 : fitsP bs
  rotate_left
  · have H0 := Lib.hid (HF0 false ⟨fun e => (by cases e), fun e => absurd e gf0⟩)
    clear HF0 gf0
    go_enter Try.func3, Try.ntmps3
    go_wp2_with ((with_reducible refine H0.out.mono ?_); rintro e w1 ⟨rfl, hb1⟩)
    go_ret
    exact ⟨rfl, hb1⟩
  have H0 := Lib.hid (HF0 true ⟨fun _ => gf0, fun _ => rfl⟩)
  have GF := Lib.hid gf0
  clear HF0
  by_cases g2 : 2147483647 < x.size
  · clear gf0
    go_enter Try.func3, Try.ntmps3
    go_wp2_with ((with_reducible refine H0.out.mono ?_); rintro e w1 ⟨rfl, hb1⟩)
    go_ret
    exact ⟨rfl, hb1⟩
  have g2' : x.size ≤ 2147483647 := by omega
  have H1 : Hid (∀ W, Below w.heap.size w W → Calls Try.prog 6 #[.slice A0 bs.length c0] W (Ret (.int .i64 (sumB bs)) W)) := fun W hW => sum_any A0 _ c0 bs W gf0 rfl (R0.out.below hW)
  by_cases gb : 1048576 < sumB bs ∨ 1048576 < x.size
  · have HB := Lib.hid (fun W => beyond2 (sumB bs) x.size true (by simpa using gb) W)
    clear gb g2 gf0
    go_enter Try.func3, Try.ntmps3
    go_wp2_with fail
    refine H0.out.mono ?_
    rintro e w1 ⟨rfl, hb1⟩
    have HB1 := Lib.hid hb1
    clear hb1
    go_wp2_with fail
    refine (H1.out _ HB1.out).mono ?_
    rintro e w2 ⟨rfl, hb1⟩
    have HB2 := Lib.hid (HB1.out.trans (hb1.mono HB1.out.size))
    clear hb1 HB1
    go_wp2_with (go_at_call 5; refine (HB.out _).mono ?_; rintro e w3 ⟨rfl, rfl⟩)
    go_ret
    exact ⟨rfl, HB2.out.alloc HB2.out.size _⟩
  have HB := Lib.hid (fun W => beyond2 (sumB bs) x.size false (by simpa using gb) W)
  have hbl : bs.length ≤ 1048576 := by
    have : bs.length ≤ sumB bs := by unfold sumB; omega
    omega
  have HL0 : ∀ b : Bool, (b = true ↔ listP bs) → ∀ W, Below w.heap.size w W → Calls Try.prog 7 #[.slice A0 bs.length c0] W (Ret (.bool b) W) := fun b hb W hW => listOk_any A0 _ c0 bs W gf0 rfl (R0.out.below hW) b hb
  have HN0 := fun W => nameOk_any x g2' W
  clear gb g2 gf0
  by_cases gl : listP bs
  rotate_left
  · have HK := Lib.hid (HL0 false ⟨fun e => (by cases e), fun e => absurd e gl⟩)
    clear HL0 HN0 gl
    go_enter Try.func3, Try.ntmps3
    go_wp2_with fail
    refine H0.out.mono ?_
    rintro e w1 ⟨rfl, hb1⟩
    have HB1 := Lib.hid hb1
    clear hb1
    go_wp2_with fail
    refine (H1.out _ HB1.out).mono ?_
    rintro e w2 ⟨rfl, hb1⟩
    have HB2 := Lib.hid (HB1.out.trans (hb1.mono HB1.out.size))
    clear hb1 HB1
    go_wp2_with fail
    go_at_call 5
    refine (HB.out _).mono ?_
    rintro e wz ⟨rfl, rfl⟩
    have HB3 := Lib.hid (HB2.out.alloc HB2.out.size (.cells #[.int .i64 (sumB bs : Int), .int .i64 (x.size : Int)] 3))
    clear HB2
    go_wp2_with ((with_reducible refine (HK.out _ HB3.out).mono ?_); rintro e w4 ⟨rfl, hb4⟩)
    go_ret
    exact ⟨rfl, HB3.out.trans (hb4.mono HB3.out.size)⟩
  have HKa := Lib.hid (HL0 true ⟨fun _ => gl, fun _ => rfl⟩)
  clear HL0
  cases hno : nameOk (bytes x)
  · rw [hno] at HN0
    have HK := Lib.hid HN0
    clear HN0 gl hno
    go_enter Try.func3, Try.ntmps3
    go_wp2_with fail
    refine H0.out.mono ?_
    rintro e w1 ⟨rfl, hb1⟩
    have HB1 := Lib.hid hb1
    clear hb1
    go_wp2_with fail
    refine (H1.out _ HB1.out).mono ?_
    rintro e w2 ⟨rfl, hb1⟩
    have HB2 := Lib.hid (HB1.out.trans (hb1.mono HB1.out.size))
    clear hb1 HB1
    go_wp2_with fail
    go_at_call 5
    refine (HB.out _).mono ?_
    rintro e wz ⟨rfl, rfl⟩
    have HB3 := Lib.hid (HB2.out.alloc HB2.out.size (.cells #[.int .i64 (sumB bs : Int), .int .i64 (x.size : Int)] 3))
    clear HB2
    go_wp2_with fail
    refine (HKa.out _ HB3.out).mono ?_
    rintro e w4 ⟨rfl, hb1⟩
    have HB4 := Lib.hid (HB3.out.trans (hb1.mono HB3.out.size))
    clear hb1 HB3
    go_wp2_with ((with_reducible refine (HK.out _).mono ?_); rintro e w5 ⟨rfl, hb5⟩)
    go_ret
    exact ⟨rfl, HB4.out.trans (hb5.mono HB4.out.size)⟩
  rw [hno] at HN0
  have HKb : Hid (∀ W, Below w.heap.size w W → Calls Try.prog 8 #[.string x] W (Ret (.bool true) W)) := fun W _ => HN0 W
  have hbs : ∀ y ∈ bs, nameOk (bytes y) = true := fun y hy => nameL_ok (gl.1 y hy)
  have HP : Hid (∀ W, Below w.heap.size w W → Calls Try.prog 9 #[.slice A0 bs.length c0] W (PrPost bs W)) := fun W hW => implPrune_any A0 _ c0 bs W rfl M3.out (by omega) (R0.out.below hW) fun y hy => isS_name (hbs y hy)
  have HBS := Lib.hid hbs
  have HNO := Lib.hid hno
  clear HN0 gl hno hbs
  go_enter Try.func3, Try.ntmps3
  go_wp2_with fail
  refine H0.out.mono ?_
  rintro e w1 ⟨rfl, hb1⟩
  have HB1 := Lib.hid hb1
  clear hb1
  go_wp2_with fail
  refine (H1.out _ HB1.out).mono ?_
  rintro e w2 ⟨rfl, hb1⟩
  have HB2 := Lib.hid (HB1.out.trans (hb1.mono HB1.out.size))
  clear hb1 HB1
  go_wp2_with fail
  go_at_call 5
  refine (HB.out _).mono ?_
  rintro e wz ⟨rfl, rfl⟩
  have HB3 := Lib.hid (HB2.out.alloc HB2.out.size (.cells #[.int .i64 (sumB bs : Int), .int .i64 (x.size : Int)] 3))
  clear HB2
  go_wp2_with fail
  refine (HKa.out _ HB3.out).mono ?_
  rintro e w4 ⟨rfl, hb1⟩
  have HB4 := Lib.hid (HB3.out.trans (hb1.mono HB3.out.size))
  clear hb1 HB3
  go_wp2_with fail
  refine (HKb.out _ HB4.out).mono ?_
  rintro e w5 ⟨rfl, hb1⟩
  have HB5 := Lib.hid (HB4.out.trans (hb1.mono HB4.out.size))
  clear hb1 HB4
  go_wp2_with fail
  refine (HP.out _ HB5.out).mono ?_
  rintro e w6 ⟨A1, n1, c1, ks, rfl, rfl, hA1, hrd1, hpr, hb6⟩
  have HB6 := Lib.hid (HB5.out.trans (hb6.mono HB5.out.size))
  have HR1 := Lib.hid hrd1
  have HPR := Lib.hid hpr
  have hkl : ks.length ≤ bs.length := hpr.length
  have hks : ∀ y ∈ ks, y.size ≤ 2147483647 := fun y hy => (isS_name (HBS.out y (hpr.sub y hy))).2
  have HC : Hid (∀ i (h : i < ks.length) W, Below w.heap.size w W → Calls Try.prog 10 #[.slice A0 bs.length c0, .string ks[i]] W fun e w' => e = .returned (.bool true) ∧ W = w') := fun i h W hW => contains_any A0 _ c0 bs ks[i] W rfl (by omega) (R0.out.below hW) true ⟨fun _ => hpr.sub _ (List.getElem_mem h), fun _ => rfl⟩
  have HD : Hid (∀ i k (hi : i < ks.length) (hk : k < ks.length), i ≠ k → ∀ W, Calls Try.prog 11 #[.string ks[k], .string ks[i]] W (Ret (.int .i64 0) W)) := fun i k hi hk hne W => by
    have := specDNS_any ks[k] ks[i] (hks _ (List.getElem_mem hk)) (hks _ (List.getElem_mem hi)) W
    rw [dnsV_ok (HBS.out _ (hpr.sub _ (List.getElem_mem hk))) (HBS.out _ (hpr.sub _ (List.getElem_mem hi))), hpr.apart HBS.out i k hi hk hne, if_neg (by simp)] at this
    exact this
  have hfk : fitsP ks := ⟨by omega, fun j h => hks _ (List.getElem_mem h)⟩
  have HS1 : Hid (∀ W, Below w6.heap.size w6 W → Calls Try.prog 13 #[.slice A1 ks.length c1, .string x] W (SaysPost (ks.map fun c => saysD c x) W)) := fun W hW => lawsDns_any A1 _ c1 ks x W rfl hfk g2' (HR1.out.below hW)
  have HS2 : Hid (∀ W, Below w.heap.size w W → Calls Try.prog 13 #[.slice A0 bs.length c0, .string x] W (SaysPost (bs.map fun c => saysD c x) W)) := fun W hW => lawsDns_any A0 _ c0 bs x W rfl GF.out g2' (R0.out.below hW)
  have HFE : Hid (fnd (ks.map fun c => saysD c x) = fnd (bs.map fun c => saysD c x)) := hpr.fnd HBS.out HNO.out
  have HE : (ks.length = 0 ∧ bs.length = 0) ∨ (0 < ks.length ∧ 0 < bs.length) := by
    have := hpr.none
    rcases Nat.eq_zero_or_pos bs.length with h | h
    · exact .inl ⟨by rw [this.2 (List.eq_nil_of_length_eq_zero h)]; rfl, h⟩
    · refine .inr ⟨List.length_pos_iff.2 fun e => ?_, h⟩
      rw [this.1 e] at h; cases h
  have HEE := Lib.hid HE
  clear HE hA1 hrd1 hpr hb6 hks hfk HP HB5
  go_wp2
  go_loopg [36] ks.length (fun kx s36 wr => ∃ i : Nat, i ≤ ks.length ∧ ks.length - i ≤ kx ∧ s36 = .int .i64 i ∧ Aside (Below w6.heap.size w6 wr))
  case atStart => exact ⟨0, by omega, by omega, rfl, Below.refl _ _⟩
  case round =>
    obtain ⟨i, hi, hg, rfl, HW⟩ := hrel
    have HWw := Lib.hid (HB6.out.trans (HW.out.mono HB6.out.size))
    by_cases hlt : i < ks.length
    · obtain ⟨ad1, rfl, h1l, hc1⟩ := (HR1.out.below HW.out) i _ (strs_get hlt)
      have HCi := Lib.hid (HC.out i hlt wr HWw.out)
      have HDi : Hid (∀ k (hk : k < ks.length), i ≠ k → ∀ W, Calls Try.prog 11 #[.string ks[k], .string ks[i]] W (Ret (.int .i64 0) W)) := fun k hk h W => HD.out i k hlt hk h W
      generalize ks[i] = y at hc1 HCi HDi
      go_wp2_with ((with_reducible refine HCi.out.mono ?_); rintro e w7 ⟨rfl, rfl⟩)
      go_loopg [47] ks.length (fun ky s47 ws => ∃ k : Nat, k ≤ ks.length ∧ ks.length - k ≤ ky ∧ s47 = .int .i64 k ∧ Aside (Below w6.heap.size w6 ws))
      case atStart => exact ⟨0, by omega, by omega, rfl, HW.out⟩
      case round =>
        clear hc1 h1l
        obtain ⟨k, hk, hgk, rfl, HV⟩ := hrel
        by_cases hkt : k < ks.length
        · obtain ⟨ad2, he, h2l, hc2⟩ := (HR1.out.below HV.out) k _ (strs_get hkt)
          obtain rfl := Option.some.inj he
          clear he
          by_cases hik : i = k
          · subst hik
            have e1 : ((i : Int) != (i : Int)) = false := by simp
            generalize ks[i] = z at hc2
            go_wp2
            go_roundg (ks.length - (i + 1))
            case measure => omega
            case rel => exact ⟨i + 1, by omega, by omega, by go_num, HV.out⟩
          · have e1 : ((i : Int) != (k : Int)) = true := by rw [bne_iff_ne]; omega
            have HDk := Lib.hid (HDi.out k hkt hik wr)
            generalize ks[k] = z at hc2 HDk
            clear hik
            go_wp2_with ((with_reducible refine HDk.out.mono ?_); rintro e w8 ⟨rfl, hb8⟩)
            have HV2 := Lib.hid (HV.out.trans (hb8.mono HV.out.size))
            clear hb8
            go_wp2
            go_roundg (ks.length - (k + 1))
            case measure => omega
            case rel => exact ⟨k + 1, by omega, by omega, by go_num, HV2.out⟩
        · go_wp2
          go_roundg (ks.length - (i + 1))
          case measure => omega
          case rel => exact ⟨i + 1, by omega, by omega, by go_num, HV.out⟩
    · obtain ⟨X, hX⟩ : ∃ X, X = ks.map fun c => saysD c x := ⟨_, rfl⟩
      obtain ⟨Y, hY⟩ : ∃ Y, Y = bs.map fun c => saysD c x := ⟨_, rfl⟩
      have lX : X.length ≤ 2147483647 := by rw [hX, List.length_map]; omega
      have lY : Y.length ≤ 2147483647 := by rw [hY, List.length_map]; omega
      rw [← hX] at HS1 HFE
      rw [← hY] at HS2 HFE
      have HS1w := Lib.hid (HS1.out _ HW.out)
      have HFE2 := HFE
      clear hX hY hi hg
      rcases HEE.out with ⟨z1, z2⟩ | ⟨z1, z2⟩
      all_goals
        first
          | have y1 : decide (0 < ks.length) = true := by rw [decide_eq_true_eq]; omega
          | have y1 : decide (0 < ks.length) = false := by rw [decide_eq_false_iff_not]; omega
        first
          | have y2 : decide (0 < bs.length) = true := by rw [decide_eq_true_eq]; omega
          | have y2 : decide (0 < bs.length) = false := by rw [decide_eq_false_iff_not]; omega
        have y3 : (decide ((0 : Int) < (ks.length : Int)) == decide ((0 : Int) < (bs.length : Int))) = true := by rw [beq_iff_eq, decide_eq_decide]; omega
        clear z1 z2
        go_wp2_with fail
        refine HS1w.out.mono ?_
        rintro e w7 ⟨A2, c2, rfl, hr2, hb7⟩
        have HA1 := Lib.hid (any_any A2 _ c2 X w7 rfl lX hr2)
        have HB7 := Lib.hid (HWw.out.trans (hb7.mono HWw.out.size))
        clear hr2 hb7
        go_wp2_with fail
        refine HA1.out.mono ?_
        rintro e w8 ⟨rfl, rfl⟩
        go_wp2_with fail
        refine (HS2.out _ HB7.out).mono ?_
        rintro e w8 ⟨A3, c3, rfl, hr3, hb8⟩
        have HA2 := Lib.hid (any_any A3 _ c3 Y w8 rfl lY hr3)
        have HB8 := Lib.hid (HB7.out.trans (hb8.mono HB7.out.size))
        clear hr3 hb8
        go_wp2_with fail
        refine HA2.out.mono ?_
        rintro e w9 ⟨rfl, rfl⟩
        have e9 : (fnd X == fnd Y) = true := by rw [HFE2.out, beq_self_eq_true]
        go_wp2
        go_ret
        exact ⟨rfl, HB8.out⟩

set_option maxRecDepth 100000 in
set_option linter.unusedVariables false in
theorem fnPrune_lifted (os : Os) (started : os.Started) (H : Type) (enc : TypeId × Value → H) :
    ReturnsInHanded {} Try.checked os 3 .any (Rows.fnPruneSpec.pre6 enc Try.prog Try.f3 Rows.fnPruneRow.domain false) (Rows.fnPruneSpec.post enc Try.prog Try.f3 false true false false) := by
  refine returnsInHanded_of_change (C := Try.checked) own started (by kernel_rfl) Try.func3
    (ChangeSpec.witness6 (enc := enc) (C := Try.checked) false ⟨#[], #[.slice none 0 0, .string ByteArray.empty], []⟩ 8 (by kernel_rfl) (by kernel_rfl) (by kernel_rfl) (by kernel_rfl)) ?_
  intro W base args ds gs before hval0 hW hcnd _
  have hval : ∀ (j : Nat) t v, Try.f3.params[j]? = some t → args[j]? = some v → Value.okWide Try.prog W .any base t v := hval0
  have hW' := hW
  obtain ⟨p, q, hA0, hV, rfl, hfz, hnd⟩ := hW
  have hA : DataW.TrodAll enc Try.prog W 0 (fun _ => true) true Try.f3.params.toList args.toList ds p := hA0
  rw [Try.params3] at hA hval
  obtain ⟨v0, vs0, d0, ds0, p0, q0, hargs, rfl, rfl, h0, r0⟩ := trodAll_cons hA
  obtain ⟨v1, vs1, d1, ds1, p1, q1, rfl, rfl, rfl, h1, r1⟩ := trodAll_cons r0
  obtain ⟨rfl, rfl, rfl⟩ := trodAll_nil r1
  obtain rfl : args = #[v0, v1] := by cases args; simp_all
  obtain ⟨rfl, rfl⟩ := trodVars_none hV
  have k0 := h0
  have lt0 : ∀ x ∈ p0, x.block < W.heap.size := by obtain ⟨m, hm⟩ := k0; exact DataW.trod_lt m _ _ _ hm
  obtain ⟨A0, n0, c0, bs0, rfl, w0⟩ := opened_strings (hval 0 22 v0 rfl rfl) h0
  obtain ⟨a1, rfl, rfl, rfl, w1⟩ := open_string Try.underlying9 (hval 1 9 v1 rfl rfl) h1
  clear hA0 hval0
  refine (fnPrune_walk (w := W) A0 n0 c0 bs0 w0 a1 w1).mono fun e W' ⟨he, bel⟩ => ?_
  subst he
  exact ⟨_, rfl, _, _, _, [], _, [], hW', trodAll_mk1 (shut_bool Try.underlying4 _), (trodAll_cons_mk (Below.trod laidOut (by kernel_rfl) (of_decide_eq_true (by kernel_rfl)) k0 bel lt0) (trodAll_cons_mk (shut_string Try.underlying9 w1) trodAll_mk0)), rfl, bel.frame _, fun h => by cases h⟩
theorem fnPrune_facts : joinedFacts Try.prog 3 Try.f3 Rows.fnPruneSpec Rows.fnPruneRow = true :=
  facts_of rfl head_enter head_lifts head_make rfl rfl (by kernel_rfl) (by kernel_rfl) (by kernel_rfl) (by kernel_rfl) (by kernel_rfl)
theorem fnPrune_over : Rows.fnPruneRow.holds Try.pinned (OpenSpec.ofChange Rows.fnPruneSpec) :=
  OpenClaim.holds_of_wide 3 Try.f3 rfl rfl rfl rfl rfl rfl rfl ⟨rfl, rfl, rfl, rfl, rfl⟩ rfl rfl rfl rfl rfl (by kernel_rfl) Try.func3 fnPrune_facts
    (of_decide_eq_true (by kernel_rfl)) (by unfold Func.isWrapper; first | (rw [if_pos (by decide +kernel)]; kernel_rfl) | (rw [if_neg (by decide +kernel)]; exact ⟨rfl, rfl⟩))
    (fun os started H enc _ => fnPrune_lifted os started H enc)
theorem fnPrune_holds : Rows.FnPruneSaid := fnPrune_over
end Go.Proofs.Ytdinnpjplgkffaa
