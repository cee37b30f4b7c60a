/-
  FnSplit holds: a host name has its labels in lower case, with a dot at its end or without. For every input; no condition.
-/
import Derived.Test.YtdnbbodolpgphaaW14
namespace Go.Proofs.Ytdnbbodolpgphaa
open Go.ChangeShapes Go.WideShapes Go.ChangeAt Go.RowKit
open Go.ChangeMaps (open_string shut_string)

theorem trim46_same {l : List UInt8} (h : nameOk l = true) : trim46 l = l := by
  unfold trim46
  rw [if_neg (nameOk_last46 h)]
theorem trim46_dot (l : List UInt8) : trim46 (l ++ [46]) = l := by
  unfold trim46
  simp

set_option maxHeartbeats 4000000 in
theorem fnSplit_walk (a0 : ByteArray) (w0 : a0.size ≤ maxLen) (w : World) :
    Calls Try.prog 13 #[.string a0] w (Ret (.bool true) w) := by
  unfold maxLen at w0
  by_cases g0 : 2147483647 < a0.size
  · go_enter Try.func13, Try.ntmps13
    go_wp2
    go_ret
    exact ⟨rfl, Below.refl _ _⟩
  by_cases gb : 1048576 < a0.size
  · have HB := Lib.hid (fun W => beyond1 a0.size true (by simpa using gb) W)
    clear gb
    go_enter Try.func13, Try.ntmps13
    go_wp2_with ((go_at_call 20; refine (HB.out _).mono ?_; rintro e w' ⟨rfl, rfl⟩))
    go_ret
    exact ⟨rfl, (by repeat (first | assumption | exact Below.refl _ _ | exact Below.one _ _ | refine Below.next ?_ (by assumption)))⟩
  have HB := Lib.hid (fun W => beyond1 a0.size false (by simpa using gb) W)
  have z0 : a0.size ≤ 1048576 := by omega
  clear gb
  have hna := fun W => nameOk_any a0 (by omega) W
  cases na : nameOk (bytes a0)
  · rw [na] at hna
    have HNa := Lib.hid hna
    clear hna na
    go_enter Try.func13, Try.ntmps13
    go_wp2_with (first | (go_at_call 20; refine (HB.out _).mono ?_; rintro e w' ⟨rfl, rfl⟩) | ((with_reducible refine (HNa.out _).mono ?_); rintro e w1 ⟨rfl, hb1⟩))
    go_ret
    exact ⟨rfl, (by repeat (first | assumption | exact Below.refl _ _ | exact Below.one _ _ | refine Below.next ?_ (by assumption)))⟩
  rw [na] at hna
  have HNa := Lib.hid hna
  clear hna
  have hlow := fun W => specLower_any a0 (by omega) W
  have hxs : (ofBytes (lowL (bytes a0))).size ≤ 1048576 := by rw [size_ofBytes, lowL_length, bytes_length]; exact z0
  have hlab := fun W => labels_any (ofBytes (lowL (bytes a0))) (by omega) W
  rw [bytes_ofBytes] at hlab
  have hs1 := fun W => implSplit_any a0 (by omega) W
  have hs2 := fun W => implSplit_any (a0 ++ ⟨#[46]⟩) (by simp [ByteArray.size_mk']; omega) W
  have e1 : splitL (bytes a0) = lowL (bytes a0) := by unfold splitL; rw [trim46_same na]
  have e2 : splitL (bytes (a0 ++ ⟨#[46]⟩)) = lowL (bytes a0) := by
    unfold splitL
    rw [bytes_append]
    change lowL (trim46 (bytes a0 ++ [46])) = _
    rw [trim46_dot]
  rw [e1] at hs1
  rw [e2] at hs2
  have hle : (labelsB (lowL (bytes a0))).length ≤ 2147483648 := by
    have := labelsB_le (lowL (bytes a0))
    rw [lowL_length, bytes_length] at this
    omega
  have HLow := Lib.hid hlow
  have HLab := Lib.hid hlab
  have HS1 := Lib.hid hs1
  have HS2 := Lib.hid hs2
  clear hlow hlab hs1 hs2 e1 e2 na hxs
  generalize ofBytes (lowL (bytes a0)) = x at *
  generalize lowL (bytes a0) = l at *
  have he : decide (labelsB l = labelsB l) = true := by simp
  go_enter Try.func13, Try.ntmps13
  go_wp2_with (first | (go_at_call 20; refine (HB.out _).mono ?_; rintro e w' ⟨rfl, rfl⟩) | ((with_reducible refine (HNa.out _).mono ?_); rintro e w1 ⟨rfl, hb1⟩) | ((with_reducible refine (HLow.out _).mono ?_); rintro e w2 ⟨rfl, hb2⟩) | ((with_reducible refine (HLab.out _).mono ?_); rintro e w3 ⟨v3, rfl, hown3, hb3⟩))
  have hR3 := Lib.hid (Rd.own hown3)
  clear hown3
  obtain ⟨A3, c3, rfl, -, -, hr3, -⟩ := hR3.out
  have HR3 := Lib.hid hr3
  clear hR3 hr3
  refine (HS1.out _).mono ?_
  rintro e w4 ⟨v4, rfl, hown4, hb4⟩
  obtain ⟨A4, c4, rfl, -, -, hr4, -⟩ := Rd.own hown4
  have hr3 := HR3.out.below hb4
  have HE := Lib.hid (equal_any A4 A3 _ _ c4 c3 (labelsB l) (labelsB l) w4 rfl rfl hle hle hr4 hr3)
  have HR4 := Lib.hid hr3
  clear hown4 hr4 hr3 HR3
  go_wp2_with fail
  refine HE.out.mono ?_
  rintro e w5 ⟨rfl, hb5⟩
  rw [he]
  have HR5 := Lib.hid (HR4.out.below hb5)
  clear HE HR4
  go_wp2_with fail
  refine (HS2.out _).mono ?_
  rintro e w6 ⟨v6, rfl, hown6, hb6⟩
  obtain ⟨A6, c6, rfl, -, -, hr6, -⟩ := Rd.own hown6
  have hr3 := HR5.out.below hb6
  have HE := Lib.hid (equal_any A6 A3 _ _ c6 c3 (labelsB l) (labelsB l) w6 rfl rfl hle hle hr6 hr3)
  clear hown6 hr6 hr3 HR5
  go_wp2_with fail
  refine HE.out.mono ?_
  rintro e w7 ⟨rfl, hb7⟩
  rw [he]
  clear HE
  go_wp2
  go_ret
  exact ⟨rfl, (by repeat (first | assumption | exact Below.refl _ _ | exact Below.one _ _ | refine Below.next ?_ (by assumption)))⟩

set_option maxRecDepth 100000 in
set_option linter.unusedVariables false in
theorem fnSplit_lifted (os : Os) (started : os.Started) (H : Type) (enc : TypeId × Value → H) :
    ReturnsInHanded {} Try.checked os 13 .any (Rows.fnSplitSpec.pre6 enc Try.prog Try.f13 Rows.fnSplitRow.domain false) (Rows.fnSplitSpec.post enc Try.prog Try.f13 false true false false) := by
  refine returnsInHanded_of_change (C := Try.checked) own started (by kernel_rfl) Try.func13
    (ChangeSpec.witness6 (enc := enc) (C := Try.checked) false ⟨#[], #[.string ByteArray.empty], []⟩ 8 (by kernel_rfl) (by kernel_rfl) (by kernel_rfl) (by kernel_rfl)) ?_
  intro W base args ds gs before hval0 hW hcnd _
  have hval : ∀ (j : Nat) t v, Try.f13.params[j]? = some t → args[j]? = some v → Value.okWide Try.prog W .any base t v := hval0
  have hW' := hW
  obtain ⟨p, q, hA0, hV, rfl, hfz, hnd⟩ := hW
  have hA : DataW.TrodAll enc Try.prog W 0 (fun _ => true) true Try.f13.params.toList args.toList ds p := hA0
  rw [Try.params13] at hA hval
  obtain ⟨v0, vs0, d0, ds0, p0, q0, hargs, rfl, rfl, h0, r0⟩ := trodAll_cons hA
  obtain ⟨rfl, rfl, rfl⟩ := trodAll_nil r0
  obtain rfl : args = #[v0] := by cases args; simp_all
  obtain ⟨rfl, rfl⟩ := trodVars_none hV
  obtain ⟨a0, rfl, rfl, rfl, w0⟩ := open_string Try.underlying9 (hval 0 9 v0 rfl rfl) h0
  clear hA0 hval0
  refine (fnSplit_walk a0 w0 W).mono fun e W' ⟨he, bel⟩ => ?_
  subst he
  exact ⟨_, rfl, _, _, _, [], _, [], hW', trodAll_mk1 (shut_bool Try.underlying4 _), (trodAll_cons_mk (shut_string Try.underlying9 w0) trodAll_mk0), rfl, bel.frame _, fun h => by cases h⟩
theorem fnSplit_facts : joinedFacts Try.prog 13 Try.f13 Rows.fnSplitSpec Rows.fnSplitRow = true :=
  facts_of rfl head_enter head_lifts head_make rfl rfl (by kernel_rfl) (by kernel_rfl) (by kernel_rfl) (by kernel_rfl) (by kernel_rfl)
theorem fnSplit_over : Rows.fnSplitRow.holds Try.pinned (OpenSpec.ofChange Rows.fnSplitSpec) :=
  OpenClaim.holds_of_wide 13 Try.f13 rfl rfl rfl rfl rfl rfl rfl ⟨rfl, rfl, rfl, rfl, rfl⟩ rfl rfl rfl rfl rfl (by kernel_rfl) Try.func13 fnSplit_facts
    (of_decide_eq_true (by kernel_rfl)) (by unfold Func.isWrapper; first | (rw [if_pos (by decide +kernel)]; kernel_rfl) | (rw [if_neg (by decide +kernel)]; exact ⟨rfl, rfl⟩))
    (fun os started H enc _ => fnSplit_lifted os started H enc)
theorem fnSplit_holds : Rows.FnSplitSaid := fnSplit_over
end Go.Proofs.Ytdnbbodolpgphaa
