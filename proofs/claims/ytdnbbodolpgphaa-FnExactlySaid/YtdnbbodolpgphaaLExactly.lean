/-
  FnExactly holds: two host names are the same whatever their case, and not where they differ otherwise. For every input; no condition.
-/
import Derived.Test.YtdnbbodolpgphaaW8
namespace Go.Proofs.Ytdnbbodolpgphaa
open Go.ChangeShapes Go.WideShapes Go.ChangeAt Go.RowKit
open Go.ChangeMaps (open_string shut_string)

set_option maxHeartbeats 2000000 in
theorem fnExactly_walk (a0 : ByteArray) (w0 : a0.size ≤ maxLen) (a1 : ByteArray) (w1 : a1.size ≤ maxLen) (w : World) :
    Calls Try.prog 7 #[.string a0, .string a1] w (Ret (.bool true) w) := by
  unfold maxLen at w0 w1
  by_cases g0 : 2147483647 < a0.size
  · go_enter Try.func7, Try.ntmps7
    go_wp2
    go_ret
    exact ⟨rfl, Below.refl _ _⟩
  by_cases g1 : 2147483647 < a1.size
  · go_enter Try.func7, Try.ntmps7
    go_wp2
    go_ret
    exact ⟨rfl, Below.refl _ _⟩
  by_cases gb : 1048576 < a0.size ∨ 1048576 < a1.size
  · have HB := Lib.hid (fun W => beyond2 a0.size a1.size true (by simpa using gb) W)
    clear gb
    go_enter Try.func7, Try.ntmps7
    go_wp2_with ((go_at_call 20; refine (HB.out _).mono ?_; rintro e w' ⟨rfl, rfl⟩))
    go_ret
    exact ⟨rfl, (by repeat (first | exact Below.refl _ _ | exact Below.one _ _ | refine Below.next ?_ (by assumption)))⟩
  have HB := Lib.hid (fun W => beyond2 a0.size a1.size false (by simpa using gb) W)
  clear gb
  have hna := fun W => nameOk_any a0 (by omega) W
  have hnb := fun W => nameOk_any a1 (by omega) W
  cases na : nameOk (bytes a0)
  · rw [na] at hna
    have HNa := Lib.hid hna
    clear hna hnb na
    go_enter Try.func7, Try.ntmps7
    go_wp2_with (first | (go_at_call 20; refine (HB.out _).mono ?_; rintro e w' ⟨rfl, rfl⟩) | ((with_reducible refine (HNa.out _).mono ?_); rintro e w1 ⟨rfl, hb1⟩))
    go_ret
    exact ⟨rfl, (by repeat (first | exact Below.refl _ _ | exact Below.one _ _ | refine Below.next ?_ (by assumption)))⟩
  rw [na] at hna
  have HNa := Lib.hid hna
  have na' := Lib.hid na
  clear hna na
  cases nb : nameOk (bytes a1)
  · rw [nb] at hnb
    have HNb := Lib.hid hnb
    clear hnb nb
    go_enter Try.func7, Try.ntmps7
    go_wp2_with (first | (go_at_call 20; refine (HB.out _).mono ?_; rintro e w' ⟨rfl, rfl⟩) | ((with_reducible refine (HNa.out _).mono ?_); rintro e w1 ⟨rfl, hb1⟩) | ((with_reducible refine (HNb.out _).mono ?_); rintro e w2 ⟨rfl, hb2⟩))
    go_ret
    exact ⟨rfl, (by repeat (first | exact Below.refl _ _ | exact Below.one _ _ | refine Below.next ?_ (by assumption)))⟩
  rw [nb] at hnb
  have HNb := Lib.hid hnb
  have nn := Lib.hid (nameOk_not na'.out)
  have nn2 := Lib.hid (nameOk_not nb)
  clear hnb nb
  have HS := Lib.hid (fun W => same_any a0 a1 (by omega) (by omega) W)
  have HE := Lib.hid (fun W => implExactly_any a0 a1 (by omega) (by omega) nn.out.1 nn.out.2 nn2.out.1 nn2.out.2 W)
  have HL := Lib.hid (fun W => specLower_any a0 (by omega) W)
  have hx : Hid (sameL (bytes a0) (bytes (ofBytes (lowL (bytes a0)))) = true) := by
    show _ = _
    rw [bytes_ofBytes]; simp [sameL, lowL_lowL]
  have hsz : (ofBytes (lowL (bytes a0))).size ≤ 2147483647 := by rw [← bytes_length, bytes_ofBytes, lowL_length, bytes_length]; omega
  have hne : (ofBytes (lowL (bytes a0))).toList ≠ [] ∧ (ofBytes (lowL (bytes a0))).toList ≠ [46] := by
    obtain ⟨c, r, e, hc⟩ := nameOk_head na'.out
    rw [e, ofBytes, ByteArray.toList_mk]
    refine ⟨by simp [lowL], ?_⟩
    intro h
    simp only [lowL, List.map_cons, List.cons.injEq] at h
    have h1 : low c.toNat = 46 := by rw [← lowB_toNat, h.1]; rfl
    have h2 : c.toNat ≠ 46 := fun h => hc (UInt8.toNat_inj.1 h)
    unfold low at h1
    split at h1 <;> omega
  have he2 := fun W => implExactly_any a0 (ofBytes (lowL (bytes a0))) (by omega) hsz nn.out.1 nn.out.2 hne.1 hne.2 W
  rw [hx.out] at he2
  have HE2 := Lib.hid he2
  clear he2 hne hsz hx
  generalize ofBytes (lowL (bytes a0)) = x at *
  generalize sameL (bytes a0) (bytes a1) = q at *
  go_enter Try.func7, Try.ntmps7
  go_wp2_with (first | (go_at_call 20; refine (HB.out _).mono ?_; rintro e w' ⟨rfl, rfl⟩) | ((with_reducible refine (HNa.out _).mono ?_); rintro e w1 ⟨rfl, hb1⟩) | ((with_reducible refine (HNb.out _).mono ?_); rintro e w2 ⟨rfl, hb2⟩) | ((with_reducible refine (HE.out _).mono ?_); rintro e w3 ⟨rfl, hb3⟩) | ((with_reducible refine (HS.out _).mono ?_); rintro e w4 ⟨rfl, hb4⟩) | ((with_reducible refine (HL.out _).mono ?_); rintro e w5 ⟨rfl, hb5⟩) | ((with_reducible refine (HE2.out _).mono ?_); rintro e w6 ⟨rfl, hb6⟩))
  go_ret
  exact ⟨ret_bool (by simp), (by repeat (first | exact Below.refl _ _ | exact Below.one _ _ | refine Below.next ?_ (by assumption)))⟩

set_option maxRecDepth 100000 in
set_option linter.unusedVariables false in
theorem fnExactly_lifted (os : Os) (started : os.Started) (H : Type) (enc : TypeId × Value → H) :
    ReturnsInHanded {} Try.checked os 7 .any (Rows.fnExactlySpec.pre6 enc Try.prog Try.f7 Rows.fnExactlyRow.domain false) (Rows.fnExactlySpec.post enc Try.prog Try.f7 false true false false) := by
  refine returnsInHanded_of_change (C := Try.checked) own started (by kernel_rfl) Try.func7
    (ChangeSpec.witness6 (enc := enc) (C := Try.checked) false ⟨#[], #[.string ByteArray.empty, .string ByteArray.empty], []⟩ 8 (by kernel_rfl) (by kernel_rfl) (by kernel_rfl) (by kernel_rfl)) ?_
  intro W base args ds gs before hval0 hW hcnd _
  have hval : ∀ (j : Nat) t v, Try.f7.params[j]? = some t → args[j]? = some v → Value.okWide Try.prog W .any base t v := hval0
  have hW' := hW
  obtain ⟨p, q, hA0, hV, rfl, hfz, hnd⟩ := hW
  have hA : DataW.TrodAll enc Try.prog W 0 (fun _ => true) true Try.f7.params.toList args.toList ds p := hA0
  rw [Try.params7] at hA hval
  obtain ⟨v0, vs0, d0, ds0, p0, q0, hargs, rfl, rfl, h0, r0⟩ := trodAll_cons hA
  obtain ⟨v1, vs1, d1, ds1, p1, q1, rfl, rfl, rfl, h1, r1⟩ := trodAll_cons r0
  obtain ⟨rfl, rfl, rfl⟩ := trodAll_nil r1
  obtain rfl : args = #[v0, v1] := by cases args; simp_all
  obtain ⟨rfl, rfl⟩ := trodVars_none hV
  obtain ⟨a0, rfl, rfl, rfl, w0⟩ := open_string Try.underlying9 (hval 0 9 v0 rfl rfl) h0
  obtain ⟨a1, rfl, rfl, rfl, w1⟩ := open_string Try.underlying9 (hval 1 9 v1 rfl rfl) h1
  clear hA0 hval0
  refine (fnExactly_walk a0 w0 a1 w1 W).mono fun e W' ⟨he, bel⟩ => ?_
  subst he
  exact ⟨_, rfl, _, _, _, [], _, [], hW', trodAll_mk1 (shut_bool Try.underlying4 _), (trodAll_cons_mk (shut_string Try.underlying9 w0) (trodAll_cons_mk (shut_string Try.underlying9 w1) trodAll_mk0)), rfl, bel.frame _, fun h => by cases h⟩
theorem fnExactly_facts : joinedFacts Try.prog 7 Try.f7 Rows.fnExactlySpec Rows.fnExactlyRow = true :=
  facts_of rfl head_enter head_lifts head_make rfl rfl (by kernel_rfl) (by kernel_rfl) (by kernel_rfl) (by kernel_rfl) (by kernel_rfl)
theorem fnExactly_over : Rows.fnExactlyRow.holds Try.pinned (OpenSpec.ofChange Rows.fnExactlySpec) :=
  OpenClaim.holds_of_wide 7 Try.f7 rfl rfl rfl rfl rfl rfl rfl ⟨rfl, rfl, rfl, rfl, rfl⟩ rfl rfl rfl rfl rfl (by kernel_rfl) Try.func7 fnExactly_facts
    (of_decide_eq_true (by kernel_rfl)) (by unfold Func.isWrapper; first | (rw [if_pos (by decide +kernel)]; kernel_rfl) | (rw [if_neg (by decide +kernel)]; exact ⟨rfl, rfl⟩))
    (fun os started H enc _ => fnExactly_lifted os started H enc)
theorem fnExactly_holds : Rows.FnExactlySaid := fnExactly_over
end Go.Proofs.Ytdnbbodolpgphaa
