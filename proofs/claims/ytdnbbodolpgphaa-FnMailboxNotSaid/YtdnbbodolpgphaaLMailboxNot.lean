/-
  FnMailboxNot holds: what has no @, a local part of nothing, one with a dot at an end, or with two dots side by side, is no mailbox. For every input; no condition.
-/
import Derived.Test.YtdnbbodolpgphaaM6
import Derived.Test.YtdnbbodolpgphaaPMail2
namespace Go.Proofs.Ytdnbbodolpgphaa
open Go.ChangeShapes Go.WideShapes Go.ChangeAt Go.RowKit
open Go.ChangeMaps (open_string shut_string)

/-- No mailbox, and not too long. -/
def NoMail (s : ByteArray) : Prop := parseM (bytes s) = none ∧ s.size ≤ 1073741824
theorem five_get {P : ByteArray → Prop} (a b c d e : ByteArray) (ha : P a) (hb : P b) (hc : P c) (hd : P d) (he : P e) (j : Nat) (h : j < [a, b, c, d, e].length) : P ([a, b, c, d, e][j]) := by
  match j, h with
  | 0, _ => exact ha
  | 1, _ => exact hb
  | 2, _ => exact hc
  | 3, _ => exact hd
  | 4, _ => exact he
set_option maxHeartbeats 4000000 in
theorem fnMailboxNot_walk (a0 : ByteArray) (w0 : a0.size ≤ maxLen) (a1 : ByteArray) (w1 : a1.size ≤ maxLen) (a2 : ByteArray) (w2 : a2.size ≤ maxLen) (w : World) :
    Calls Try.prog 18 #[.string a0, .string a1, .string a2] w (Ret (.bool true) w) := by
  unfold maxLen at w0 w1 w2
  by_cases g0 : 2147483647 < a0.size
  · go_enter Try.func18, Try.ntmps18
    go_wp2
    go_ret
    exact ⟨rfl, Below.refl _ _⟩
  have g0' : a0.size ≤ 2147483647 := by omega
  have d0' : decide (2147483647 < (a0.size : Int)) = false := by rw [decide_eq_false_iff_not]; omega
  clear g0
  by_cases g1 : 2147483647 < a1.size
  · go_enter Try.func18, Try.ntmps18
    go_wp2
    go_ret
    exact ⟨rfl, Below.refl _ _⟩
  have g1' : a1.size ≤ 2147483647 := by omega
  have d1' : decide (2147483647 < (a1.size : Int)) = false := by rw [decide_eq_false_iff_not]; omega
  clear g1
  by_cases g2 : 2147483647 < a2.size
  · go_enter Try.func18, Try.ntmps18
    go_wp2
    go_ret
    exact ⟨rfl, Below.refl _ _⟩
  have g2' : a2.size ≤ 2147483647 := by omega
  have d2' : decide (2147483647 < (a2.size : Int)) = false := by rw [decide_eq_false_iff_not]; omega
  clear g2
  by_cases gb : 1048576 < a0.size ∨ 1048576 < a1.size ∨ 1048576 < a2.size
  · have HB := Lib.hid (fun W => beyond3 a0.size a1.size a2.size true (by simpa [or_assoc] using gb) W)
    clear gb
    go_enter Try.func18, Try.ntmps18
    go_wp2_with ((go_at_call 20; refine (HB.out _).mono ?_; rintro e w' ⟨rfl, rfl⟩))
    go_ret
    exact ⟨rfl, (by repeat (first | assumption | exact Below.refl _ _ | exact Below.one _ _ | refine Below.next ?_ (by assumption)))⟩
  have HB := Lib.hid (fun W => beyond3 a0.size a1.size a2.size false (by simpa [and_assoc] using gb) W)
  have z0 : a0.size ≤ 1048576 := by omega
  have z1 : a1.size ≤ 1048576 := by omega
  have z2 : a2.size ≤ 1048576 := by omega
  clear gb
  by_cases hl0 : localOk (bytes a0)
  rotate_left
  · have HNa := Lib.hid (fun W => localOk_any a0 (by omega) W false ⟨fun e => (by cases e), fun e => absurd e hl0⟩)
    clear hl0
    go_enter Try.func18, Try.ntmps18
    go_wp2_with (first | (go_at_call 20; refine (HB.out _).mono ?_; rintro e w' ⟨rfl, rfl⟩) | ((with_reducible refine (HNa.out _).mono ?_); rintro e w1 ⟨rfl, hb1⟩))
    go_ret
    exact ⟨rfl, (by repeat (first | assumption | exact Below.refl _ _ | exact Below.one _ _ | refine Below.next ?_ (by assumption)))⟩
  have HNa := Lib.hid (fun W => localOk_any a0 (by omega) W true ⟨fun _ => hl0, fun _ => rfl⟩)
  have la := Lib.hid (localOk_locL hl0).1
  clear hl0
  by_cases hl1 : localOk (bytes a1)
  rotate_left
  · have HNb := Lib.hid (fun W => localOk_any a1 (by omega) W false ⟨fun e => (by cases e), fun e => absurd e hl1⟩)
    clear hl1
    go_enter Try.func18, Try.ntmps18
    go_wp2_with (first | (go_at_call 20; refine (HB.out _).mono ?_; rintro e w' ⟨rfl, rfl⟩) | ((with_reducible refine (HNa.out _).mono ?_); rintro e w1 ⟨rfl, hb1⟩) | ((with_reducible refine (HNb.out _).mono ?_); rintro e w2 ⟨rfl, hb2⟩))
    go_ret
    exact ⟨rfl, (by repeat (first | assumption | exact Below.refl _ _ | exact Below.one _ _ | refine Below.next ?_ (by assumption)))⟩
  have HNb := Lib.hid (fun W => localOk_any a1 (by omega) W true ⟨fun _ => hl1, fun _ => rfl⟩)
  have lb := Lib.hid (localOk_locL hl1).1
  clear hl1
  have hnc := fun W => nameOk_any a2 (by omega) W
  cases nc : nameOk (bytes a2)
  · rw [nc] at hnc
    have HNc := Lib.hid hnc
    clear hnc nc
    go_enter Try.func18, Try.ntmps18
    go_wp2_with (first | (go_at_call 20; refine (HB.out _).mono ?_; rintro e w' ⟨rfl, rfl⟩) | ((with_reducible refine (HNa.out _).mono ?_); rintro e w1 ⟨rfl, hb1⟩) | ((with_reducible refine (HNb.out _).mono ?_); rintro e w2 ⟨rfl, hb2⟩) | ((with_reducible refine (HNc.out _).mono ?_); rintro e w3 ⟨rfl, hb3⟩))
    go_ret
    exact ⟨rfl, (by repeat (first | assumption | exact Below.refl _ _ | exact Below.one _ _ | refine Below.next ?_ (by assumption)))⟩
  rw [nc] at hnc
  have HNc := Lib.hid hnc
  have nc' := Lib.hid nc
  clear hnc nc
  have HS := Lib.hid (five_get (P := NoMail) _ _ _ _ _ (show NoMail a0 from ⟨parseM_bare la.out, by omega⟩)
    (show NoMail (⟨#[64]⟩ ++ a2) from ⟨by rw [bytes_append]; exact parseM_none0 _, by simp [ByteArray.size_mk']; omega⟩)
    (show NoMail (((⟨#[46]⟩ ++ a0) ++ ⟨#[64]⟩) ++ a2) from ⟨by rw [bytes_append, bytes_append, bytes_append, List.append_assoc]; exact parseM_none1 _ la.out, by simp [ByteArray.size_mk']; omega⟩)
    (show NoMail ((a0 ++ ⟨#[46, 64]⟩) ++ a2) from ⟨by rw [bytes_append, bytes_append, show bytes ⟨#[46, 64]⟩ = [46] ++ [64] from rfl, List.append_assoc, List.append_assoc, ← List.append_assoc]; exact parseM_none2 _ la.out, by simp [ByteArray.size_mk']; omega⟩)
    (show NoMail ((((a0 ++ ⟨#[46, 46]⟩) ++ a1) ++ ⟨#[64]⟩) ++ a2) from ⟨by rw [bytes_append, bytes_append, bytes_append, bytes_append, List.append_assoc, List.append_assoc (bytes a0)]; exact parseM_none3 _ la.out lb.out, by simp [ByteArray.size_mk']; omega⟩))
  have e6 : bytes ((((a0 ++ ⟨#[46]⟩) ++ a1) ++ ⟨#[64]⟩) ++ a2) = (bytes a0 ++ 46 :: bytes a1) ++ 64 :: bytes a2 := by
    rw [bytes_append, bytes_append, bytes_append, bytes_append, List.append_assoc, List.append_assoc (bytes a0)]; rfl
  have hm6 := fun W => implMail_any ((((a0 ++ ⟨#[46]⟩) ++ a1) ++ ⟨#[64]⟩) ++ a2) (by simp [ByteArray.size_mk']; omega) W
  rw [e6, parseM_local (locL_append la.out lb.out) nc'.out] at hm6
  unfold mail3 at hm6
  have HM6 := Lib.hid hm6
  clear hm6 e6
  go_enter Try.func18, Try.ntmps18
  go_wp2_with (first | (go_at_call 20; refine (HB.out _).mono ?_; rintro e w' ⟨rfl, rfl⟩) | ((with_reducible refine (HNa.out _).mono ?_); rintro e w1 ⟨rfl, hb1⟩) | ((with_reducible refine (HNb.out _).mono ?_); rintro e w2 ⟨rfl, hb2⟩) | ((with_reducible refine (HNc.out _).mono ?_); rintro e w3 ⟨rfl, hb3⟩))
  have HW3 := Lib.hid (show Below w.heap.size w w3 from (by repeat (first | assumption | exact Below.refl _ _ | exact Below.one _ _ | refine Below.next ?_ (by assumption))))
  have HR0 : Aside (Rd (w3.alloc (.cells #[.string a0, .string (⟨#[64]⟩ ++ a2), .string (((⟨#[46]⟩ ++ a0) ++ ⟨#[64]⟩) ++ a2), .string ((a0 ++ ⟨#[46, 64]⟩) ++ a2), .string ((((a0 ++ ⟨#[46, 46]⟩) ++ a1) ++ ⟨#[64]⟩) ++ a2)] 9)) (some ⟨w3.heap.size, 0, none⟩) (strs [a0, ⟨#[64]⟩ ++ a2, ((⟨#[46]⟩ ++ a0) ++ ⟨#[64]⟩) ++ a2, (a0 ++ ⟨#[46, 64]⟩) ++ a2, (((a0 ++ ⟨#[46, 46]⟩) ++ a1) ++ ⟨#[64]⟩) ++ a2])) := by
    have := Rd.new w3 #[.string a0, .string (⟨#[64]⟩ ++ a2), .string (((⟨#[46]⟩ ++ a0) ++ ⟨#[64]⟩) ++ a2), .string ((a0 ++ ⟨#[46, 64]⟩) ++ a2), .string ((((a0 ++ ⟨#[46, 46]⟩) ++ a1) ++ ⟨#[64]⟩) ++ a2)] 9
    show Rd _ _ _
    simpa [strs] using this
  have HB0 : Aside (Below w.heap.size w (w3.alloc (.cells #[.string a0, .string (⟨#[64]⟩ ++ a2), .string (((⟨#[46]⟩ ++ a0) ++ ⟨#[64]⟩) ++ a2), .string ((a0 ++ ⟨#[46, 64]⟩) ++ a2), .string ((((a0 ++ ⟨#[46, 46]⟩) ++ a1) ++ ⟨#[64]⟩) ++ a2)] 9))) := HW3.out.alloc HW3.out.size _
  have HL : Hid ([a0, ⟨#[64]⟩ ++ a2, ((⟨#[46]⟩ ++ a0) ++ ⟨#[64]⟩) ++ a2, (a0 ++ ⟨#[46, 64]⟩) ++ a2, (((a0 ++ ⟨#[46, 46]⟩) ++ a1) ++ ⟨#[64]⟩) ++ a2].length = 5) := rfl
  generalize [a0, ⟨#[64]⟩ ++ a2, ((⟨#[46]⟩ ++ a0) ++ ⟨#[64]⟩) ++ a2, (a0 ++ ⟨#[46, 64]⟩) ++ a2, (((a0 ++ ⟨#[46, 46]⟩) ++ a1) ++ ⟨#[64]⟩) ++ a2] = L at *
  go_loopg [70] 5 (fun kx i wr => ∃ k : Nat, k ≤ 5 ∧ 5 - k ≤ kx ∧ i = .int .i64 k ∧ Aside (Rd wr (some ⟨w3.heap.size, 0, none⟩) (strs L)) ∧ Aside (Below w.heap.size w wr))
  case atStart => exact ⟨0, by omega, by omega, rfl, HR0, HB0⟩
  case round =>
    clear HR0 HB0
    obtain ⟨k, hk, hg, rfl, HR, HBW⟩ := hrel
    by_cases hlt : k < 5
    · have hlt' : k < L.length := by rw [HL.out]; exact hlt
      obtain ⟨ad, had, hadl, hc⟩ := HR.out k _ (strs_get hlt')
      obtain rfl := Option.some.inj had
      have hadd : (⟨w3.heap.size, 0, none⟩ : Addr).add k = ⟨w3.heap.size, k, none⟩ := by simp [Addr.add]; intro h; exact h.symm
      rw [hadd] at hc
      obtain ⟨hx1, hx2⟩ := HS.out k hlt'
      clear had hadl hadd
      generalize L[k]'hlt' = x at hc hx1 hx2
      have hm := fun W => implMail_any x hx2 W
      rw [hx1] at hm
      dsimp only [mail3] at hm
      have HM := Lib.hid hm
      clear hm hx1
      go_wp2_with ((with_reducible refine (HM.out _).mono ?_); rintro e w4 ⟨rfl, hb4⟩)
      go_roundg (5 - (k + 1))
      case measure => omega
      case rel => exact ⟨k + 1, by omega, by omega, by go_num, HR.out.below hb4, Below.next HBW.out hb4⟩
    · clear HR
      go_wp2_with ((with_reducible refine (HM6.out _).mono ?_); rintro e w4 ⟨rfl, hb4⟩)
      go_ret
      exact ⟨rfl, Below.next HBW.out hb4⟩

set_option maxRecDepth 100000 in
set_option linter.unusedVariables false in
theorem fnMailboxNot_lifted (os : Os) (started : os.Started) (H : Type) (enc : TypeId × Value → H) :
    ReturnsInHanded {} Try.checked os 18 .any (Rows.fnMailboxNotSpec.pre6 enc Try.prog Try.f18 Rows.fnMailboxNotRow.domain false) (Rows.fnMailboxNotSpec.post enc Try.prog Try.f18 false true false false) := by
  refine returnsInHanded_of_change (C := Try.checked) own started (by kernel_rfl) Try.func18
    (ChangeSpec.witness6 (enc := enc) (C := Try.checked) false ⟨#[], #[.string ByteArray.empty, .string ByteArray.empty, .string ByteArray.empty], []⟩ 8 (by kernel_rfl) (by kernel_rfl) (by kernel_rfl) (by kernel_rfl)) ?_
  intro W base args ds gs before hval0 hW hcnd _
  have hval : ∀ (j : Nat) t v, Try.f18.params[j]? = some t → args[j]? = some v → Value.okWide Try.prog W .any base t v := hval0
  have hW' := hW
  obtain ⟨p, q, hA0, hV, rfl, hfz, hnd⟩ := hW
  have hA : DataW.TrodAll enc Try.prog W 0 (fun _ => true) true Try.f18.params.toList args.toList ds p := hA0
  rw [Try.params18] at hA hval
  obtain ⟨v0, vs0, d0, ds0, p0, q0, hargs, rfl, rfl, h0, r0⟩ := trodAll_cons hA
  obtain ⟨v1, vs1, d1, ds1, p1, q1, rfl, rfl, rfl, h1, r1⟩ := trodAll_cons r0
  obtain ⟨v2, vs2, d2, ds2, p2, q2, rfl, rfl, rfl, h2, r2⟩ := trodAll_cons r1
  obtain ⟨rfl, rfl, rfl⟩ := trodAll_nil r2
  obtain rfl : args = #[v0, v1, v2] := by cases args; simp_all
  obtain ⟨rfl, rfl⟩ := trodVars_none hV
  obtain ⟨a0, rfl, rfl, rfl, w0⟩ := open_string Try.underlying9 (hval 0 9 v0 rfl rfl) h0
  obtain ⟨a1, rfl, rfl, rfl, w1⟩ := open_string Try.underlying9 (hval 1 9 v1 rfl rfl) h1
  obtain ⟨a2, rfl, rfl, rfl, w2⟩ := open_string Try.underlying9 (hval 2 9 v2 rfl rfl) h2
  clear hA0 hval0
  refine (fnMailboxNot_walk a0 w0 a1 w1 a2 w2 W).mono fun e W' ⟨he, bel⟩ => ?_
  subst he
  exact ⟨_, rfl, _, _, _, [], _, [], hW', trodAll_mk1 (shut_bool Try.underlying4 _), (trodAll_cons_mk (shut_string Try.underlying9 w0) (trodAll_cons_mk (shut_string Try.underlying9 w1) (trodAll_cons_mk (shut_string Try.underlying9 w2) trodAll_mk0))), rfl, bel.frame _, fun h => by cases h⟩
theorem fnMailboxNot_facts : joinedFacts Try.prog 18 Try.f18 Rows.fnMailboxNotSpec Rows.fnMailboxNotRow = true :=
  facts_of rfl head_enter head_lifts head_make rfl rfl (by kernel_rfl) (by kernel_rfl) (by kernel_rfl) (by kernel_rfl) (by kernel_rfl)
theorem fnMailboxNot_over : Rows.fnMailboxNotRow.holds Try.pinned (OpenSpec.ofChange Rows.fnMailboxNotSpec) :=
  OpenClaim.holds_of_wide 18 Try.f18 rfl rfl rfl rfl rfl rfl rfl ⟨rfl, rfl, rfl, rfl, rfl⟩ rfl rfl rfl rfl rfl (by kernel_rfl) Try.func18 fnMailboxNot_facts
    (of_decide_eq_true (by kernel_rfl)) (by unfold Func.isWrapper; first | (rw [if_pos (by decide +kernel)]; kernel_rfl) | (rw [if_neg (by decide +kernel)]; exact ⟨rfl, rfl⟩))
    (fun os started H enc _ => fnMailboxNot_lifted os started H enc)
theorem fnMailboxNot_holds : Rows.FnMailboxNotSaid := fnMailboxNot_over
end Go.Proofs.Ytdnbbodolpgphaa
