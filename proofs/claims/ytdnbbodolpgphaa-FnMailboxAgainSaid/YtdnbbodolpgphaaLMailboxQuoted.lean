/-
  FnMailboxQuoted holds: a local part of any bytes of ASCII but NUL and ends of lines, between quotes, is told as it is, whichever bytes have a backslash ahead. For every input; no condition.
-/
import Derived.Test.YtdnbbodolpgphaaM6
import Derived.Test.YtdnbbodolpgphaaPMail2
namespace Go.Proofs.Ytdnbbodolpgphaa
open Go.ChangeShapes Go.WideShapes Go.ChangeAt Go.RowKit
open Go.ChangeMaps (open_string shut_string)

theorem quoL_length (all : Bool) (l : List UInt8) : (quoL all l).length ≤ 2 * l.length + 2 := by
  have := quoBody_length all l
  unfold quoL
  simp only [List.length_cons, List.length_append, List.length_nil]
  omega
set_option maxHeartbeats 1000000 in
theorem fnMailboxQuoted_walk (a0 : ByteArray) (w0 : a0.size ≤ maxLen) (a1 : ByteArray) (w1 : a1.size ≤ maxLen) (a2 : Bool) (w : World) :
    Calls Try.prog 19 #[.string a0, .string a1, .bool a2] w (Ret (.bool true) w) := by
  unfold maxLen at w0 w1
  by_cases g0 : 2147483647 < a0.size
  · go_enter Try.func19, Try.ntmps19
    go_wp2
    go_ret
    exact ⟨rfl, Below.refl _ _⟩
  have g0' : a0.size ≤ 2147483647 := by omega
  have d0' : decide (2147483647 < (a0.size : Int)) = false := by rw [decide_eq_false_iff_not]; omega
  clear g0
  by_cases g1 : 2147483647 < a1.size
  · go_enter Try.func19, Try.ntmps19
    go_wp2
    go_ret
    exact ⟨rfl, Below.refl _ _⟩
  have g1' : a1.size ≤ 2147483647 := by omega
  have d1' : decide (2147483647 < (a1.size : Int)) = false := by rw [decide_eq_false_iff_not]; omega
  clear g1
  by_cases gb : 1048576 < a0.size ∨ 1048576 < a1.size
  · have HB := Lib.hid (fun W => beyond2 a0.size a1.size true (by simpa using gb) W)
    clear gb
    go_enter Try.func19, Try.ntmps19
    go_wp2_with ((go_at_call 20; refine (HB.out _).mono ?_; rintro e w' ⟨rfl, rfl⟩))
    go_ret
    exact ⟨rfl, (by repeat (first | assumption | exact Below.refl _ _ | exact Below.one _ _ | refine Below.next ?_ (by assumption)))⟩
  have HB := Lib.hid (fun W => beyond2 a0.size a1.size false (by simpa using gb) W)
  have z0 : a0.size ≤ 1048576 := by omega
  have z1 : a1.size ≤ 1048576 := by omega
  clear gb
  by_cases hl : quoOk (bytes a0)
  rotate_left
  · have HNa := Lib.hid (fun W => quotedOk_any a0 (by omega) W false ⟨fun e => (by cases e), fun e => absurd e hl⟩)
    clear hl
    go_enter Try.func19, Try.ntmps19
    go_wp2_with (first | (go_at_call 20; refine (HB.out _).mono ?_; rintro e w' ⟨rfl, rfl⟩) | ((with_reducible refine (HNa.out _).mono ?_); rintro e w1 ⟨rfl, hb1⟩))
    go_ret
    exact ⟨rfl, (by repeat (first | assumption | exact Below.refl _ _ | exact Below.one _ _ | refine Below.next ?_ (by assumption)))⟩
  have HNa := Lib.hid (fun W => quotedOk_any a0 (by omega) W true ⟨fun _ => hl, fun _ => rfl⟩)
  have hl' := Lib.hid hl
  clear hl
  have hnb := fun W => nameOk_any a1 (by omega) W
  cases nb : nameOk (bytes a1)
  · rw [nb] at hnb
    have HNb := Lib.hid hnb
    clear hnb nb
    go_enter Try.func19, Try.ntmps19
    go_wp2_with (first | (go_at_call 20; refine (HB.out _).mono ?_; rintro e w' ⟨rfl, rfl⟩) | ((with_reducible refine (HNa.out _).mono ?_); rintro e w1 ⟨rfl, hb1⟩) | ((with_reducible refine (HNb.out _).mono ?_); rintro e w2 ⟨rfl, hb2⟩))
    go_ret
    exact ⟨rfl, (by repeat (first | assumption | exact Below.refl _ _ | exact Below.one _ _ | refine Below.next ?_ (by assumption)))⟩
  rw [nb] at hnb
  have HNb := Lib.hid hnb
  have nb' := Lib.hid nb
  clear hnb nb
  have HQ := Lib.hid (fun W => quoted_any a0 a2 (by omega) W)
  have hq := quoL_length a2 (bytes a0)
  rw [bytes_length] at hq
  have e1 : bytes ((ofBytes (quoL a2 (bytes a0)) ++ ⟨#[64]⟩) ++ a1) = quoL a2 (bytes a0) ++ 64 :: bytes a1 := by rw [bytes_append, bytes_append, List.append_assoc, bytes_ofBytes]; rfl
  have hm := fun W => implMail_any ((ofBytes (quoL a2 (bytes a0)) ++ ⟨#[64]⟩) ++ a1) (by rw [ByteArray.size_append, ByteArray.size_append, size_ofBytes, show (⟨#[64]⟩ : ByteArray).size = 1 from rfl]; omega) W
  rw [e1, parseM_quoted a2 hl'.out nb'.out] at hm
  unfold mail3 at hm
  simp only [ofBytes_bytes] at hm
  have HM := Lib.hid hm
  have hqs : (ofBytes (quoL a2 (bytes a0))).size ≤ 2097154 := by rw [size_ofBytes]; omega
  clear hm e1 hq
  generalize ofBytes (quoL a2 (bytes a0)) = q at *
  go_enter Try.func19, Try.ntmps19
  go_wp2_with (first | (go_at_call 20; refine (HB.out _).mono ?_; rintro e w' ⟨rfl, rfl⟩) | ((with_reducible refine (HNa.out _).mono ?_); rintro e w1 ⟨rfl, hb1⟩) | ((with_reducible refine (HNb.out _).mono ?_); rintro e w2 ⟨rfl, hb2⟩) | ((with_reducible refine (HQ.out _).mono ?_); rintro e w3 ⟨rfl, hb3⟩) | ((with_reducible refine (HM.out _).mono ?_); rintro e w4 ⟨rfl, hb4⟩))
  go_ret
  exact ⟨rfl, (by repeat (first | assumption | exact Below.refl _ _ | exact Below.one _ _ | refine Below.next ?_ (by assumption)))⟩

set_option maxRecDepth 100000 in
set_option linter.unusedVariables false in
theorem fnMailboxQuoted_lifted (os : Os) (started : os.Started) (H : Type) (enc : TypeId × Value → H) :
    ReturnsInHanded {} Try.checked os 19 .any (Rows.fnMailboxQuotedSpec.pre6 enc Try.prog Try.f19 Rows.fnMailboxQuotedRow.domain false) (Rows.fnMailboxQuotedSpec.post enc Try.prog Try.f19 false true false false) := by
  refine returnsInHanded_of_change (C := Try.checked) own started (by kernel_rfl) Try.func19
    (ChangeSpec.witness6 (enc := enc) (C := Try.checked) false ⟨#[], #[.string ByteArray.empty, .string ByteArray.empty, .bool false], []⟩ 8 (by kernel_rfl) (by kernel_rfl) (by kernel_rfl) (by kernel_rfl)) ?_
  intro W base args ds gs before hval0 hW hcnd _
  have hval : ∀ (j : Nat) t v, Try.f19.params[j]? = some t → args[j]? = some v → Value.okWide Try.prog W .any base t v := hval0
  have hW' := hW
  obtain ⟨p, q, hA0, hV, rfl, hfz, hnd⟩ := hW
  have hA : DataW.TrodAll enc Try.prog W 0 (fun _ => true) true Try.f19.params.toList args.toList ds p := hA0
  rw [Try.params19] at hA hval
  obtain ⟨v0, vs0, d0, ds0, p0, q0, hargs, rfl, rfl, h0, r0⟩ := trodAll_cons hA
  obtain ⟨v1, vs1, d1, ds1, p1, q1, rfl, rfl, rfl, h1, r1⟩ := trodAll_cons r0
  obtain ⟨v2, vs2, d2, ds2, p2, q2, rfl, rfl, rfl, h2, r2⟩ := trodAll_cons r1
  obtain ⟨rfl, rfl, rfl⟩ := trodAll_nil r2
  obtain rfl : args = #[v0, v1, v2] := by cases args; simp_all
  obtain ⟨rfl, rfl⟩ := trodVars_none hV
  obtain ⟨a0, rfl, rfl, rfl, w0⟩ := open_string Try.underlying9 (hval 0 9 v0 rfl rfl) h0
  obtain ⟨a1, rfl, rfl, rfl, w1⟩ := open_string Try.underlying9 (hval 1 9 v1 rfl rfl) h1
  obtain ⟨a2, rfl, rfl, rfl⟩ := open_bool Try.underlying4 (hval 2 4 v2 rfl rfl) h2
  clear hA0 hval0
  refine (fnMailboxQuoted_walk a0 w0 a1 w1 a2 W).mono fun e W' ⟨he, bel⟩ => ?_
  subst he
  exact ⟨_, rfl, _, _, _, [], _, [], hW', trodAll_mk1 (shut_bool Try.underlying4 _), (trodAll_cons_mk (shut_string Try.underlying9 w0) (trodAll_cons_mk (shut_string Try.underlying9 w1) (trodAll_cons_mk (shut_bool Try.underlying4 a2) trodAll_mk0))), rfl, bel.frame _, fun h => by cases h⟩
theorem fnMailboxQuoted_facts : joinedFacts Try.prog 19 Try.f19 Rows.fnMailboxQuotedSpec Rows.fnMailboxQuotedRow = true :=
  facts_of rfl head_enter head_lifts head_make rfl rfl (by kernel_rfl) (by kernel_rfl) (by kernel_rfl) (by kernel_rfl) (by kernel_rfl)
theorem fnMailboxQuoted_over : Rows.fnMailboxQuotedRow.holds Try.pinned (OpenSpec.ofChange Rows.fnMailboxQuotedSpec) :=
  OpenClaim.holds_of_wide 19 Try.f19 rfl rfl rfl rfl rfl rfl rfl ⟨rfl, rfl, rfl, rfl, rfl⟩ rfl rfl rfl rfl rfl (by kernel_rfl) Try.func19 fnMailboxQuoted_facts
    (of_decide_eq_true (by kernel_rfl)) (by unfold Func.isWrapper; first | (rw [if_pos (by decide +kernel)]; kernel_rfl) | (rw [if_neg (by decide +kernel)]; exact ⟨rfl, rfl⟩))
    (fun os started H enc _ => fnMailboxQuoted_lifted os started H enc)
theorem fnMailboxQuoted_holds : Rows.FnMailboxQuotedSaid := fnMailboxQuoted_over
end Go.Proofs.Ytdnbbodolpgphaa
