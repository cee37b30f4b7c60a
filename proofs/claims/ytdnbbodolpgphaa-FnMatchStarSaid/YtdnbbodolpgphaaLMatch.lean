/-
  FnMatch holds: a pattern meets a host label by label; a star as its first label meets any one label. For every input; no condition.
-/
import Derived.Test.YtdnbbodolpgphaaW16
import Derived.Test.YtdnbbodolpgphaaLSuffix
namespace Go.Proofs.Ytdnbbodolpgphaa
open Go.ChangeShapes Go.WideShapes Go.ChangeAt Go.RowKit
open Go.ChangeMaps (open_string shut_string)

/-- A row of texts as it reads. -/
theorem labels_len (l : List UInt8) (n : Nat) (h : l.length ≤ n) (hn : n ≤ 2147483647) : (labelsB l).length ≤ 2147483648 := by
  have := labelsB_le l
  omega

set_option maxHeartbeats 4000000 in
theorem fnMatch_walk (a0 : ByteArray) (w0 : a0.size ≤ maxLen) (star : Bool) (a1 : ByteArray) (w1 : a1.size ≤ maxLen) (w : World) :
    Calls Try.prog 11 #[.string a0, .bool star, .string a1] w (Ret (.bool true) w) := by
  unfold maxLen at w0 w1
  by_cases g0 : 2147483647 < a0.size
  · go_enter Try.func11, Try.ntmps11
    go_wp2
    go_ret
    exact ⟨rfl, Below.refl _ _⟩
  by_cases g1 : 2147483647 < a1.size
  · go_enter Try.func11, Try.ntmps11
    go_wp2
    go_ret
    exact ⟨rfl, Below.refl _ _⟩
  by_cases gb : 1048576 < a0.size ∨ 1048576 < a1.size
  · have HB := Lib.hid (fun W => beyond2 a0.size a1.size true (by simpa using gb) W)
    clear gb
    go_enter Try.func11, Try.ntmps11
    go_wp2_with ((go_at_call 20; refine (HB.out _).mono ?_; rintro e w' ⟨rfl, rfl⟩))
    go_ret
    exact ⟨rfl, (by repeat (first | assumption | exact Below.refl _ _ | exact Below.one _ _ | refine Below.next ?_ (by assumption)))⟩
  have HB := Lib.hid (fun W => beyond2 a0.size a1.size false (by simpa using gb) W)
  have z0 : a0.size ≤ 1048576 := by omega
  have z1 : a1.size ≤ 1048576 := by omega
  clear gb
  have hna := fun W => nameOk_any a0 (by omega) W
  have hnb := fun W => nameOk_any a1 (by omega) W
  cases na : nameOk (bytes a0)
  · rw [na] at hna
    have HNa := Lib.hid hna
    clear hna hnb na
    go_enter Try.func11, Try.ntmps11
    go_wp2_with (first | (go_at_call 20; refine (HB.out _).mono ?_; rintro e w' ⟨rfl, rfl⟩) | ((with_reducible refine (HNa.out _).mono ?_); rintro e w1 ⟨rfl, hb1⟩))
    go_ret
    exact ⟨rfl, (by repeat (first | assumption | exact Below.refl _ _ | exact Below.one _ _ | refine Below.next ?_ (by assumption)))⟩
  rw [na] at hna
  have HNa := Lib.hid hna
  have na' := Lib.hid na
  clear hna na
  cases nb : nameOk (bytes a1)
  · rw [nb] at hnb
    have HNb := Lib.hid hnb
    clear hnb nb
    go_enter Try.func11, Try.ntmps11
    go_wp2_with (first | (go_at_call 20; refine (HB.out _).mono ?_; rintro e w' ⟨rfl, rfl⟩) | ((with_reducible refine (HNa.out _).mono ?_); rintro e w1 ⟨rfl, hb1⟩) | ((with_reducible refine (HNb.out _).mono ?_); rintro e w2 ⟨rfl, hb2⟩))
    go_ret
    exact ⟨rfl, (by repeat (first | assumption | exact Below.refl _ _ | exact Below.one _ _ | refine Below.next ?_ (by assumption)))⟩
  rw [nb] at hnb
  have HNb := Lib.hid hnb
  have nb' := Lib.hid nb
  clear hnb nb
  by_cases la : lowL (bytes a0) = bytes a0
  case neg =>
    obtain ⟨x, hx, hla⟩ := lower_other a0 (by omega) la
    have HLa := Lib.hid hla
    clear hla la
    go_enter Try.func11, Try.ntmps11
    go_wp2_with (first | (go_at_call 20; refine (HB.out _).mono ?_; rintro e w' ⟨rfl, rfl⟩) | ((with_reducible refine (HNa.out _).mono ?_); rintro e w1 ⟨rfl, hb1⟩) | ((with_reducible refine (HNb.out _).mono ?_); rintro e w2 ⟨rfl, hb2⟩) | ((with_reducible refine (HLa.out _).mono ?_); rintro e w3 ⟨rfl, hb3⟩))
    go_ret
    exact ⟨rfl, (by repeat (first | assumption | exact Below.refl _ _ | exact Below.one _ _ | refine Below.next ?_ (by assumption)))⟩
  have HLa := Lib.hid (fun W => lower_same a0 (by omega) la W)
  have la' := Lib.hid la
  clear la
  have hlow := fun W => specLower_any a1 (by omega) W
  have hxs : (ofBytes (lowL (bytes a1))).size = a1.size := by rw [size_ofBytes, lowL_length, bytes_length]
  have hlab := fun W => labels_any (ofBytes (lowL (bytes a1))) (by omega) W
  rw [bytes_ofBytes] at hlab
  have hlh : (labelsB (lowL (bytes a1))).length ≤ 2147483648 := labels_len _ a1.size (by rw [lowL_length, bytes_length]; omega) (by omega)
  have hlq : 0 < (labelsB (lowL (bytes a1))).length := List.length_pos_iff.2 (labelsB_ne _)
  have h0 : 0 < a0.size := by have := nameOk_pos na'.out; rw [bytes_length] at this; exact this
  have HLow := Lib.hid hlow
  have HLab := Lib.hid hlab
  clear hlow hlab hxs
  generalize ofBytes (lowL (bytes a1)) = x at *
  generalize lowL (bytes a1) = lh at *
  cases star
  · obtain ⟨b, hb⟩ : ∃ b : Bool, b = true ↔ patP (labelsB (bytes a0)) (labelsB lh) := by
      by_cases h : patP (labelsB (bytes a0)) (labelsB lh)
      · exact ⟨true, by simp [h]⟩
      · exact ⟨false, by simp [h]⟩
    have hp0 := Lib.hid h0
    have hp1 := Lib.hid (show a0.size ≤ 1073741824 by omega)
    have hp2 := Lib.hid (show a0.size ≤ 2147483647 by omega)
    have hp4 := Lib.hid (show (bytes a0).length ≤ 1100000000 by rw [bytes_length]; omega)
    have hpl := la'
    clear h0
    have HM := Lib.hid (fun W v base h => implMatch_any a0 hp1.out hp0.out base v (labelsB lh) W b (by rw [hpl.out]; exact hb) hlh hlq h)
    have HT := Lib.hid (fun W => labels_any a0 hp2.out W)
    have HB2 := Lib.hid hb
    clear hb hpl
    have hp := Lib.hid (labels_len (bytes a0) 1100000000 hp4.out (by omega))
    go_enter Try.func11, Try.ntmps11
    go_wp2_with (first | (go_at_call 20; refine (HB.out _).mono ?_; rintro e w' ⟨rfl, rfl⟩) | ((with_reducible refine (HNa.out _).mono ?_); rintro e w1 ⟨rfl, hb1⟩) | ((with_reducible refine (HNb.out _).mono ?_); rintro e w2 ⟨rfl, hb2⟩) | ((with_reducible refine (HLa.out _).mono ?_); rintro e w3 ⟨rfl, hb3⟩) | ((with_reducible refine (HLow.out _).mono ?_); rintro e w4 ⟨rfl, hb4⟩) | ((with_reducible refine (HLab.out _).mono ?_); rintro e w5 ⟨v5, rfl, hown5, hb5⟩))
    have HO := Lib.hid hown5
    clear hown5
    obtain ⟨A5, c5, rfl, -, -, hr5, -⟩ := Rd.own HO.out
    have HR5 := Lib.hid hr5
    clear hr5
    refine (HM.out _ _ _ HO.out).mono ?_
    rintro e w6 ⟨rfl, hb6⟩
    have HR6 := Lib.hid (HR5.out.below hb6)
    clear HR5 HO
    go_wp2_with fail
    refine (HT.out _).mono ?_
    rintro e w7 ⟨v7, rfl, hown7, hb7⟩
    obtain ⟨A7, c7, rfl, -, -, hr7, -⟩ := Rd.own hown7
    have HP := Lib.hid (pattern_any A7 A5 _ _ c7 c5 (labelsB (bytes a0)) (labelsB lh) w7 b HB2.out rfl rfl hp.out hlh hr7 (HR6.out.below hb7))
    clear hown7 hr7 HR6 HB2
    go_wp2_with fail
    refine HP.out.mono ?_
    rintro e w8 ⟨rfl, hb8⟩
    go_wp2
    go_ret
    exact ⟨ret_bool (by simp), (by repeat (first | assumption | exact Below.refl _ _ | exact Below.one _ _ | refine Below.next ?_ (by assumption)))⟩
  · have hpl : Hid (lowL (bytes (⟨#[42, 46]⟩ ++ a0)) = bytes (⟨#[42, 46]⟩ ++ a0)) := by
      show _ = _
      rw [bytes_append, lowL_append, la'.out]
      rfl
    obtain ⟨b, hb⟩ : ∃ b : Bool, b = true ↔ patP (labelsB (bytes (⟨#[42, 46]⟩ ++ a0))) (labelsB lh) := by
      by_cases h : patP (labelsB (bytes (⟨#[42, 46]⟩ ++ a0))) (labelsB lh)
      · exact ⟨true, by simp [h]⟩
      · exact ⟨false, by simp [h]⟩
    have hps : (⟨#[42, 46]⟩ ++ a0 : ByteArray).size = a0.size + 2 := by simp [ByteArray.size_mk']; omega
    have hp0 := Lib.hid (show 0 < (⟨#[42, 46]⟩ ++ a0 : ByteArray).size by omega)
    have hp1 := Lib.hid (show (⟨#[42, 46]⟩ ++ a0 : ByteArray).size ≤ 1073741824 by omega)
    have hp2 := Lib.hid (show (⟨#[42, 46]⟩ ++ a0 : ByteArray).size ≤ 2147483647 by omega)
    have hp4 := Lib.hid (show (bytes (⟨#[42, 46]⟩ ++ a0)).length ≤ 1100000000 by rw [bytes_length]; omega)
    clear h0 hps
    have HM := Lib.hid (fun W v base h => implMatch_any (⟨#[42, 46]⟩ ++ a0) hp1.out hp0.out base v (labelsB lh) W b (by rw [hpl.out]; exact hb) hlh hlq h)
    have HT := Lib.hid (fun W => labels_any (⟨#[42, 46]⟩ ++ a0) hp2.out W)
    have HB2 := Lib.hid hb
    clear hb hpl
    have hp := Lib.hid (labels_len (bytes (⟨#[42, 46]⟩ ++ a0)) 1100000000 hp4.out (by omega))
    go_enter Try.func11, Try.ntmps11
    go_wp2_with (first | (go_at_call 20; refine (HB.out _).mono ?_; rintro e w' ⟨rfl, rfl⟩) | ((with_reducible refine (HNa.out _).mono ?_); rintro e w1 ⟨rfl, hb1⟩) | ((with_reducible refine (HNb.out _).mono ?_); rintro e w2 ⟨rfl, hb2⟩) | ((with_reducible refine (HLa.out _).mono ?_); rintro e w3 ⟨rfl, hb3⟩) | ((with_reducible refine (HLow.out _).mono ?_); rintro e w4 ⟨rfl, hb4⟩) | ((with_reducible refine (HLab.out _).mono ?_); rintro e w5 ⟨v5, rfl, hown5, hb5⟩))
    have HO := Lib.hid hown5
    clear hown5
    obtain ⟨A5, c5, rfl, -, -, hr5, -⟩ := Rd.own HO.out
    have HR5 := Lib.hid hr5
    clear hr5
    refine (HM.out _ _ _ HO.out).mono ?_
    rintro e w6 ⟨rfl, hb6⟩
    have HR6 := Lib.hid (HR5.out.below hb6)
    clear HR5 HO
    go_wp2_with fail
    refine (HT.out _).mono ?_
    rintro e w7 ⟨v7, rfl, hown7, hb7⟩
    obtain ⟨A7, c7, rfl, -, -, hr7, -⟩ := Rd.own hown7
    have HP := Lib.hid (pattern_any A7 A5 _ _ c7 c5 (labelsB (bytes (⟨#[42, 46]⟩ ++ a0))) (labelsB lh) w7 b HB2.out rfl rfl hp.out hlh hr7 (HR6.out.below hb7))
    clear hown7 hr7 HR6 HB2
    go_wp2_with fail
    refine HP.out.mono ?_
    rintro e w8 ⟨rfl, hb8⟩
    go_wp2
    go_ret
    exact ⟨ret_bool (by simp), (by repeat (first | assumption | exact Below.refl _ _ | exact Below.one _ _ | refine Below.next ?_ (by assumption)))⟩

set_option maxRecDepth 100000 in
set_option linter.unusedVariables false in
theorem fnMatch_lifted (os : Os) (started : os.Started) (H : Type) (enc : TypeId × Value → H) :
    ReturnsInHanded {} Try.checked os 11 .any (Rows.fnMatchSpec.pre6 enc Try.prog Try.f11 Rows.fnMatchRow.domain false) (Rows.fnMatchSpec.post enc Try.prog Try.f11 false true false false) := by
  refine returnsInHanded_of_change (C := Try.checked) own started (by kernel_rfl) Try.func11
    (ChangeSpec.witness6 (enc := enc) (C := Try.checked) false ⟨#[], #[.string ByteArray.empty, .bool false, .string ByteArray.empty], []⟩ 8 (by kernel_rfl) (by kernel_rfl) (by kernel_rfl) (by kernel_rfl)) ?_
  intro W base args ds gs before hval0 hW hcnd _
  have hval : ∀ (j : Nat) t v, Try.f11.params[j]? = some t → args[j]? = some v → Value.okWide Try.prog W .any base t v := hval0
  have hW' := hW
  obtain ⟨p, q, hA0, hV, rfl, hfz, hnd⟩ := hW
  have hA : DataW.TrodAll enc Try.prog W 0 (fun _ => true) true Try.f11.params.toList args.toList ds p := hA0
  rw [Try.params11] at hA hval
  obtain ⟨v0, vs0, d0, ds0, p0, q0, hargs, rfl, rfl, h0, r0⟩ := trodAll_cons hA
  obtain ⟨v1, vs1, d1, ds1, p1, q1, rfl, rfl, rfl, h1, r1⟩ := trodAll_cons r0
  obtain ⟨v2, vs2, d2, ds2, p2, q2, rfl, rfl, rfl, h2, r2⟩ := trodAll_cons r1
  obtain ⟨rfl, rfl, rfl⟩ := trodAll_nil r2
  obtain rfl : args = #[v0, v1, v2] := by cases args; simp_all
  obtain ⟨rfl, rfl⟩ := trodVars_none hV
  obtain ⟨a0, rfl, rfl, rfl, w0⟩ := open_string Try.underlying9 (hval 0 9 v0 rfl rfl) h0
  obtain ⟨a1, rfl, rfl, rfl⟩ := open_bool Try.underlying4 (hval 1 4 v1 rfl rfl) h1
  obtain ⟨a2, rfl, rfl, rfl, w2⟩ := open_string Try.underlying9 (hval 2 9 v2 rfl rfl) h2
  clear hA0 hval0
  refine (fnMatch_walk a0 w0 a1 a2 w2 W).mono fun e W' ⟨he, bel⟩ => ?_
  subst he
  exact ⟨_, rfl, _, _, _, [], _, [], hW', trodAll_mk1 (shut_bool Try.underlying4 _), (trodAll_cons_mk (shut_string Try.underlying9 w0) (trodAll_cons_mk (shut_bool Try.underlying4 a1) (trodAll_cons_mk (shut_string Try.underlying9 w2) trodAll_mk0))), rfl, bel.frame _, fun h => by cases h⟩
theorem fnMatch_facts : joinedFacts Try.prog 11 Try.f11 Rows.fnMatchSpec Rows.fnMatchRow = true :=
  facts_of rfl head_enter head_lifts head_make rfl rfl (by kernel_rfl) (by kernel_rfl) (by kernel_rfl) (by kernel_rfl) (by kernel_rfl)
theorem fnMatch_over : Rows.fnMatchRow.holds Try.pinned (OpenSpec.ofChange Rows.fnMatchSpec) :=
  OpenClaim.holds_of_wide 11 Try.f11 rfl rfl rfl rfl rfl rfl rfl ⟨rfl, rfl, rfl, rfl, rfl⟩ rfl rfl rfl rfl rfl (by kernel_rfl) Try.func11 fnMatch_facts
    (of_decide_eq_true (by kernel_rfl)) (by unfold Func.isWrapper; first | (rw [if_pos (by decide +kernel)]; kernel_rfl) | (rw [if_neg (by decide +kernel)]; exact ⟨rfl, rfl⟩))
    (fun os started H enc _ => fnMatch_lifted os started H enc)
theorem fnMatch_holds : Rows.FnMatchSaid := fnMatch_over
end Go.Proofs.Ytdnbbodolpgphaa
