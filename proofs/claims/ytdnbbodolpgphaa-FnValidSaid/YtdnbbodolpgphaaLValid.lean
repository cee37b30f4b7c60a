/-
  FnValid holds: the name of a host may be a domain; with a dot ahead it may be a constraint alone; with a label of nothing in its middle neither. For every input; no condition.
-/
import Derived.Test.YtdnbbodolpgphaaPValid
namespace Go.Proofs.Ytdnbbodolpgphaa
open Go.ChangeShapes Go.WideShapes Go.ChangeAt Go.RowKit
open Go.ChangeMaps (open_string shut_string)

set_option maxHeartbeats 4000000 in
theorem fnValid_walk (a0 : ByteArray) (w0 : a0.size ≤ maxLen) (a1 : ByteArray) (w1 : a1.size ≤ maxLen) (w : World) :
    Calls Try.prog 9 #[.string a0, .string a1] w (Ret (.bool true) w) := by
  unfold maxLen at w0 w1
  by_cases g0 : 2147483647 < a0.size
  · go_enter Try.func9, Try.ntmps9
    go_wp2
    go_ret
    exact ⟨rfl, Below.refl _ _⟩
  by_cases g1 : 2147483647 < a1.size
  · go_enter Try.func9, Try.ntmps9
    go_wp2
    go_ret
    exact ⟨rfl, Below.refl _ _⟩
  by_cases gb : 1048576 < a0.size ∨ 1048576 < a1.size
  · have HB := Lib.hid (fun W => beyond2 a0.size a1.size true (by simpa using gb) W)
    clear gb
    go_enter Try.func9, Try.ntmps9
    go_wp2_with ((go_at_call 20; refine (HB.out _).mono ?_; rintro e w' ⟨rfl, rfl⟩))
    go_ret
    exact ⟨rfl, (by repeat (first | assumption | exact Below.refl _ _ | exact Below.one _ _ | refine Below.next ?_ (by assumption)))⟩
  have HB := Lib.hid (fun W => beyond2 a0.size a1.size false (by simpa using gb) W)
  have z0 : a0.size ≤ 1048576 := by omega
  have z1 : a1.size ≤ 1048576 := by omega
  clear gb
  have hna := fun W => nameOk_any a0 (by omega) W
  have hnb := fun W => nameOk_any a1 (by omega) W
  cases na : nameOk (bytes a0)
  · rw [na] at hna
    have HNa := Lib.hid hna
    clear hna hnb na
    go_enter Try.func9, Try.ntmps9
    go_wp2_with (first | (go_at_call 20; refine (HB.out _).mono ?_; rintro e w' ⟨rfl, rfl⟩) | ((with_reducible refine (HNa.out _).mono ?_); rintro e w1 ⟨rfl, hb1⟩))
    go_ret
    exact ⟨rfl, (by repeat (first | assumption | exact Below.refl _ _ | exact Below.one _ _ | refine Below.next ?_ (by assumption)))⟩
  rw [na] at hna
  have HNa := Lib.hid hna
  have na' := Lib.hid na
  clear hna na
  cases nb : nameOk (bytes a1)
  · rw [nb] at hnb
    have HNb := Lib.hid hnb
    clear hnb nb
    go_enter Try.func9, Try.ntmps9
    go_wp2_with (first | (go_at_call 20; refine (HB.out _).mono ?_; rintro e w' ⟨rfl, rfl⟩) | ((with_reducible refine (HNa.out _).mono ?_); rintro e w1 ⟨rfl, hb1⟩) | ((with_reducible refine (HNb.out _).mono ?_); rintro e w2 ⟨rfl, hb2⟩))
    go_ret
    exact ⟨rfl, (by repeat (first | assumption | exact Below.refl _ _ | exact Below.one _ _ | refine Below.next ?_ (by assumption)))⟩
  rw [nb] at hnb
  have HNb := Lib.hid hnb
  have nb' := Lib.hid nb
  clear hnb nb
  have v1 := fun W => implValid_any a0 false (by omega) W
  have v2 := fun W => implValid_any a0 true (by omega) W
  have v3 := fun W => implValid_any (⟨#[46]⟩ ++ a0) true (by simp [ByteArray.size_mk']; omega) W
  have v4 := fun W => implValid_any (⟨#[46]⟩ ++ a0) false (by simp [ByteArray.size_mk']; omega) W
  have v5 := fun W => implValid_any ((a0 ++ ⟨#[46, 46]⟩) ++ a1) false (by simp [ByteArray.size_mk']; omega) W
  have v6 := fun W => implValid_any ((a0 ++ ⟨#[46, 46]⟩) ++ a1) true (by simp [ByteArray.size_mk']; omega) W
  have e3 : bytes (⟨#[46]⟩ ++ a0) = 46 :: bytes a0 := by rw [bytes_append]; rfl
  have e5 : bytes ((a0 ++ ⟨#[46, 46]⟩) ++ a1) = bytes a0 ++ 46 :: 46 :: bytes a1 := by rw [bytes_append, bytes_append, List.append_assoc]; rfl
  rw [nameOk_validL na'.out] at v1 v2
  rw [e3, validL_dot na'.out] at v3
  rw [e3, validL_dot_not] at v4
  rw [e5, validL_mid _ na'.out] at v5 v6
  have V1 := Lib.hid v1
  have V2 := Lib.hid v2
  have V3 := Lib.hid v3
  have V4 := Lib.hid v4
  have V5 := Lib.hid v5
  have V6 := Lib.hid v6
  clear v1 v2 v3 v4 v5 v6 e3 e5
  go_enter Try.func9, Try.ntmps9
  go_wp2_with (first | (go_at_call 20; refine (HB.out _).mono ?_; rintro e w' ⟨rfl, rfl⟩) | ((with_reducible refine (HNa.out _).mono ?_); rintro e w1 ⟨rfl, hb1⟩) | ((with_reducible refine (HNb.out _).mono ?_); rintro e w2 ⟨rfl, hb2⟩) | ((with_reducible refine (V1.out _).mono ?_); rintro e w3 ⟨rfl, rfl⟩) | ((with_reducible refine (V2.out _).mono ?_); rintro e w3 ⟨rfl, rfl⟩) | ((with_reducible refine (V3.out _).mono ?_); rintro e w3 ⟨rfl, rfl⟩) | ((with_reducible refine (V4.out _).mono ?_); rintro e w3 ⟨rfl, rfl⟩) | ((with_reducible refine (V5.out _).mono ?_); rintro e w3 ⟨rfl, rfl⟩) | ((with_reducible refine (V6.out _).mono ?_); rintro e w3 ⟨rfl, rfl⟩))
  go_ret
  exact ⟨rfl, (by repeat (first | assumption | exact Below.refl _ _ | exact Below.one _ _ | refine Below.next ?_ (by assumption)))⟩

set_option maxRecDepth 100000 in
set_option linter.unusedVariables false in
theorem fnValid_lifted (os : Os) (started : os.Started) (H : Type) (enc : TypeId × Value → H) :
    ReturnsInHanded {} Try.checked os 9 .any (Rows.fnValidSpec.pre6 enc Try.prog Try.f9 Rows.fnValidRow.domain false) (Rows.fnValidSpec.post enc Try.prog Try.f9 false true false false) := by
  refine returnsInHanded_of_change (C := Try.checked) own started (by kernel_rfl) Try.func9
    (ChangeSpec.witness6 (enc := enc) (C := Try.checked) false ⟨#[], #[.string ByteArray.empty, .string ByteArray.empty], []⟩ 8 (by kernel_rfl) (by kernel_rfl) (by kernel_rfl) (by kernel_rfl)) ?_
  intro W base args ds gs before hval0 hW hcnd _
  have hval : ∀ (j : Nat) t v, Try.f9.params[j]? = some t → args[j]? = some v → Value.okWide Try.prog W .any base t v := hval0
  have hW' := hW
  obtain ⟨p, q, hA0, hV, rfl, hfz, hnd⟩ := hW
  have hA : DataW.TrodAll enc Try.prog W 0 (fun _ => true) true Try.f9.params.toList args.toList ds p := hA0
  rw [Try.params9] at hA hval
  obtain ⟨v0, vs0, d0, ds0, p0, q0, hargs, rfl, rfl, h0, r0⟩ := trodAll_cons hA
  obtain ⟨v1, vs1, d1, ds1, p1, q1, rfl, rfl, rfl, h1, r1⟩ := trodAll_cons r0
  obtain ⟨rfl, rfl, rfl⟩ := trodAll_nil r1
  obtain rfl : args = #[v0, v1] := by cases args; simp_all
  obtain ⟨rfl, rfl⟩ := trodVars_none hV
  obtain ⟨a0, rfl, rfl, rfl, w0⟩ := open_string Try.underlying9 (hval 0 9 v0 rfl rfl) h0
  obtain ⟨a1, rfl, rfl, rfl, w1⟩ := open_string Try.underlying9 (hval 1 9 v1 rfl rfl) h1
  clear hA0 hval0
  refine (fnValid_walk a0 w0 a1 w1 W).mono fun e W' ⟨he, bel⟩ => ?_
  subst he
  exact ⟨_, rfl, _, _, _, [], _, [], hW', trodAll_mk1 (shut_bool Try.underlying4 _), (trodAll_cons_mk (shut_string Try.underlying9 w0) (trodAll_cons_mk (shut_string Try.underlying9 w1) trodAll_mk0)), rfl, bel.frame _, fun h => by cases h⟩
theorem fnValid_facts : joinedFacts Try.prog 9 Try.f9 Rows.fnValidSpec Rows.fnValidRow = true :=
  facts_of rfl head_enter head_lifts head_make rfl rfl (by kernel_rfl) (by kernel_rfl) (by kernel_rfl) (by kernel_rfl) (by kernel_rfl)
theorem fnValid_over : Rows.fnValidRow.holds Try.pinned (OpenSpec.ofChange Rows.fnValidSpec) :=
  OpenClaim.holds_of_wide 9 Try.f9 rfl rfl rfl rfl rfl rfl rfl ⟨rfl, rfl, rfl, rfl, rfl⟩ rfl rfl rfl rfl rfl (by kernel_rfl) Try.func9 fnValid_facts
    (of_decide_eq_true (by kernel_rfl)) (by unfold Func.isWrapper; first | (rw [if_pos (by decide +kernel)]; kernel_rfl) | (rw [if_neg (by decide +kernel)]; exact ⟨rfl, rfl⟩))
    (fun os started H enc _ => fnValid_lifted os started H enc)
theorem fnValid_holds : Rows.FnValidSaid := fnValid_over
end Go.Proofs.Ytdnbbodolpgphaa
