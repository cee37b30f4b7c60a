/-
  FnSuffix holds: a name ends in a domain by whole labels just where it is that, or has labels more ahead of it. For every input; no condition.
-/
import Derived.Test.YtdnbbodolpgphaaPNames
namespace Go.Proofs.Ytdnbbodolpgphaa
open Go.ChangeShapes Go.WideShapes Go.ChangeAt Go.RowKit
open Go.ChangeMaps (open_string shut_string)

/-- Whether spec.Lower gives the text itself. -/
theorem lower_same (s : ByteArray) (hs : s.size ≤ 2147483647) (h : lowL (bytes s) = bytes s) (W : World) : Calls Try.prog 25 #[.string s] W (Ret (.string s) W) := by
  have := specLower_any s hs W
  rw [h, ofBytes_bytes] at this
  exact this
theorem lower_other (s : ByteArray) (hs : s.size ≤ 2147483647) (h : lowL (bytes s) ≠ bytes s) : ∃ x : ByteArray, (x.toList == s.toList) = false ∧ ∀ W : World, Calls Try.prog 25 #[.string s] W (Ret (.string x) W) := by
  refine ⟨_, ?_, fun W => specLower_any s hs W⟩
  simp only [beq_eq_false_iff_ne, ne_eq]
  intro e
  apply h
  rw [ofBytes, ByteArray.toList_mk, ByteArray.toList_eq] at e
  exact e

set_option maxHeartbeats 2000000 in
theorem fnSuffix_walk (a0 : ByteArray) (w0 : a0.size ≤ maxLen) (a1 : ByteArray) (w1 : a1.size ≤ maxLen) (w : World) :
    Calls Try.prog 5 #[.string a0, .string a1] w (Ret (.bool true) w) := by
  unfold maxLen at w0 w1
  by_cases g0 : 2147483647 < a0.size
  · go_enter Try.func5, Try.ntmps5
    go_wp2
    go_ret
    exact ⟨rfl, Below.refl _ _⟩
  by_cases g1 : 2147483647 < a1.size
  · go_enter Try.func5, Try.ntmps5
    go_wp2
    go_ret
    exact ⟨rfl, Below.refl _ _⟩
  by_cases gb : 1048576 < a0.size ∨ 1048576 < a1.size
  · have HB := Lib.hid (fun W => beyond2 a0.size a1.size true (by simpa using gb) W)
    clear gb
    go_enter Try.func5, Try.ntmps5
    go_wp2_with ((go_at_call 20; refine (HB.out _).mono ?_; rintro e w' ⟨rfl, rfl⟩))
    go_ret
    exact ⟨rfl, (by repeat (first | exact Below.refl _ _ | exact Below.one _ _ | refine Below.next ?_ (by assumption)))⟩
  have HB := Lib.hid (fun W => beyond2 a0.size a1.size false (by simpa using gb) W)
  clear gb
  have hna := fun W => nameOk_any a0 (by omega) W
  have hnb := fun W => nameOk_any a1 (by omega) W
  cases na : nameOk (bytes a0)
  · rw [na] at hna
    have HNa := Lib.hid hna
    clear hna hnb na
    go_enter Try.func5, Try.ntmps5
    go_wp2_with (first | (go_at_call 20; refine (HB.out _).mono ?_; rintro e w' ⟨rfl, rfl⟩) | ((with_reducible refine (HNa.out _).mono ?_); rintro e w1 ⟨rfl, hb1⟩))
    go_ret
    exact ⟨rfl, (by repeat (first | exact Below.refl _ _ | exact Below.one _ _ | refine Below.next ?_ (by assumption)))⟩
  rw [na] at hna
  have HNa := Lib.hid hna
  have na' := Lib.hid na
  clear hna na
  cases nb : nameOk (bytes a1)
  · rw [nb] at hnb
    have HNb := Lib.hid hnb
    clear hnb nb
    go_enter Try.func5, Try.ntmps5
    go_wp2_with (first | (go_at_call 20; refine (HB.out _).mono ?_; rintro e w' ⟨rfl, rfl⟩) | ((with_reducible refine (HNa.out _).mono ?_); rintro e w1 ⟨rfl, hb1⟩) | ((with_reducible refine (HNb.out _).mono ?_); rintro e w2 ⟨rfl, hb2⟩))
    go_ret
    exact ⟨rfl, (by repeat (first | exact Below.refl _ _ | exact Below.one _ _ | refine Below.next ?_ (by assumption)))⟩
  rw [nb] at hnb
  have HNb := Lib.hid hnb
  have nb' := Lib.hid nb
  clear hnb nb
  by_cases la : lowL (bytes a0) = bytes a0
  case neg =>
    obtain ⟨x, hx, hla⟩ := lower_other a0 (by omega) la
    have HLa := Lib.hid hla
    clear hla la
    go_enter Try.func5, Try.ntmps5
    go_wp2_with (first | (go_at_call 20; refine (HB.out _).mono ?_; rintro e w' ⟨rfl, rfl⟩) | ((with_reducible refine (HNa.out _).mono ?_); rintro e w1 ⟨rfl, hb1⟩) | ((with_reducible refine (HNb.out _).mono ?_); rintro e w2 ⟨rfl, hb2⟩) | ((with_reducible refine (HLa.out _).mono ?_); rintro e w3 ⟨rfl, hb3⟩))
    go_ret
    exact ⟨rfl, (by repeat (first | exact Below.refl _ _ | exact Below.one _ _ | refine Below.next ?_ (by assumption)))⟩
  have HLa := Lib.hid (fun W => lower_same a0 (by omega) la W)
  have la' := Lib.hid la
  clear la
  by_cases lb : lowL (bytes a1) = bytes a1
  case neg =>
    obtain ⟨x, hx, hlb⟩ := lower_other a1 (by omega) lb
    have HLb := Lib.hid hlb
    clear hlb lb
    go_enter Try.func5, Try.ntmps5
    go_wp2_with (first | (go_at_call 20; refine (HB.out _).mono ?_; rintro e w' ⟨rfl, rfl⟩) | ((with_reducible refine (HNa.out _).mono ?_); rintro e w1 ⟨rfl, hb1⟩) | ((with_reducible refine (HNb.out _).mono ?_); rintro e w2 ⟨rfl, hb2⟩) | ((with_reducible refine (HLa.out _).mono ?_); rintro e w3 ⟨rfl, hb3⟩) | ((with_reducible refine (HLb.out _).mono ?_); rintro e w4 ⟨rfl, hb4⟩))
    go_ret
    exact ⟨rfl, (by repeat (first | exact Below.refl _ _ | exact Below.one _ _ | refine Below.next ?_ (by assumption)))⟩
  have HLb := Lib.hid (fun W => lower_same a1 (by omega) lb W)
  have E := Lib.hid (hasSufL_iff na'.out nb'.out la'.out lb)
  clear lb
  have h0 : 0 < a0.size := by have := nameOk_pos na'.out; rw [bytes_length] at this; exact this
  have HS := Lib.hid (fun W => implSuffix_any a0 a1 (by omega) (by omega) h0 W)
  have HU := Lib.hid (fun W => under_any a1 a0 (by omega) (by omega) W)
  have E2 : Hid ((a0.toList == a1.toList) = decide (bytes a0 = bytes a1)) := by
    show _ = _
    rw [ByteArray.toList_eq, ByteArray.toList_eq, Bool.eq_iff_iff]; simp [bytes]
  generalize decide (bytes a0 = bytes a1) = p at E E2
  generalize hasSufL (bytes a0) (bytes a1) = q at E HS
  generalize underL (bytes a1) (bytes a0) = u at E HU
  have e2 := E2.out
  cases p
  all_goals
    go_enter Try.func5, Try.ntmps5
    go_wp2_with (first | (go_at_call 20; refine (HB.out _).mono ?_; rintro e w' ⟨rfl, rfl⟩) | ((with_reducible refine (HNa.out _).mono ?_); rintro e w1 ⟨rfl, hb1⟩) | ((with_reducible refine (HNb.out _).mono ?_); rintro e w2 ⟨rfl, hb2⟩) | ((with_reducible refine (HLa.out _).mono ?_); rintro e w3 ⟨rfl, hb3⟩) | ((with_reducible refine (HLb.out _).mono ?_); rintro e w4 ⟨rfl, hb4⟩) | ((with_reducible refine (HS.out _).mono ?_); rintro e w5 ⟨rfl, hb5⟩) | ((with_reducible refine (HU.out _).mono ?_); rintro e w6 ⟨rfl, hb6⟩))
    go_ret
    exact ⟨ret_bool (by rw [E.out]; simp), (by repeat (first | exact Below.refl _ _ | exact Below.one _ _ | refine Below.next ?_ (by assumption)))⟩

set_option maxRecDepth 100000 in
set_option linter.unusedVariables false in
theorem fnSuffix_lifted (os : Os) (started : os.Started) (H : Type) (enc : TypeId × Value → H) :
    ReturnsInHanded {} Try.checked os 5 .any (Rows.fnSuffixSpec.pre6 enc Try.prog Try.f5 Rows.fnSuffixRow.domain false) (Rows.fnSuffixSpec.post enc Try.prog Try.f5 false true false false) := by
  refine returnsInHanded_of_change (C := Try.checked) own started (by kernel_rfl) Try.func5
    (ChangeSpec.witness6 (enc := enc) (C := Try.checked) false ⟨#[], #[.string ByteArray.empty, .string ByteArray.empty], []⟩ 8 (by kernel_rfl) (by kernel_rfl) (by kernel_rfl) (by kernel_rfl)) ?_
  intro W base args ds gs before hval0 hW hcnd _
  have hval : ∀ (j : Nat) t v, Try.f5.params[j]? = some t → args[j]? = some v → Value.okWide Try.prog W .any base t v := hval0
  have hW' := hW
  obtain ⟨p, q, hA0, hV, rfl, hfz, hnd⟩ := hW
  have hA : DataW.TrodAll enc Try.prog W 0 (fun _ => true) true Try.f5.params.toList args.toList ds p := hA0
  rw [Try.params5] at hA hval
  obtain ⟨v0, vs0, d0, ds0, p0, q0, hargs, rfl, rfl, h0, r0⟩ := trodAll_cons hA
  obtain ⟨v1, vs1, d1, ds1, p1, q1, rfl, rfl, rfl, h1, r1⟩ := trodAll_cons r0
  obtain ⟨rfl, rfl, rfl⟩ := trodAll_nil r1
  obtain rfl : args = #[v0, v1] := by cases args; simp_all
  obtain ⟨rfl, rfl⟩ := trodVars_none hV
  obtain ⟨a0, rfl, rfl, rfl, w0⟩ := open_string Try.underlying9 (hval 0 9 v0 rfl rfl) h0
  obtain ⟨a1, rfl, rfl, rfl, w1⟩ := open_string Try.underlying9 (hval 1 9 v1 rfl rfl) h1
  clear hA0 hval0
  refine (fnSuffix_walk a0 w0 a1 w1 W).mono fun e W' ⟨he, bel⟩ => ?_
  subst he
  exact ⟨_, rfl, _, _, _, [], _, [], hW', trodAll_mk1 (shut_bool Try.underlying4 _), (trodAll_cons_mk (shut_string Try.underlying9 w0) (trodAll_cons_mk (shut_string Try.underlying9 w1) trodAll_mk0)), rfl, bel.frame _, fun h => by cases h⟩
theorem fnSuffix_facts : joinedFacts Try.prog 5 Try.f5 Rows.fnSuffixSpec Rows.fnSuffixRow = true :=
  facts_of rfl head_enter head_lifts head_make rfl rfl (by kernel_rfl) (by kernel_rfl) (by kernel_rfl) (by kernel_rfl) (by kernel_rfl)
theorem fnSuffix_over : Rows.fnSuffixRow.holds Try.pinned (OpenSpec.ofChange Rows.fnSuffixSpec) :=
  OpenClaim.holds_of_wide 5 Try.f5 rfl rfl rfl rfl rfl rfl rfl ⟨rfl, rfl, rfl, rfl, rfl⟩ rfl rfl rfl rfl rfl (by kernel_rfl) Try.func5 fnSuffix_facts
    (of_decide_eq_true (by kernel_rfl)) (by unfold Func.isWrapper; first | (rw [if_pos (by decide +kernel)]; kernel_rfl) | (rw [if_neg (by decide +kernel)]; exact ⟨rfl, rfl⟩))
    (fun os started H enc _ => fnSuffix_lifted os started H enc)
theorem fnSuffix_holds : Rows.FnSuffixSaid := fnSuffix_over
end Go.Proofs.Ytdnbbodolpgphaa
