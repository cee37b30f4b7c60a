/-
  FnMailboxAgain holds: a mailbox that is parsed, written with quotes and parsed again has the same parts. For every input; no condition.
-/
import Derived.Test.YtdnbbodolpgphaaLMailboxQuoted
namespace Go.Proofs.Ytdnbbodolpgphaa
open Go.ChangeShapes Go.WideShapes Go.ChangeAt Go.RowKit
open Go.ChangeMaps (open_string shut_string)

theorem parseQ_len : ∀ (n : Nat) (l acc a r : List UInt8), l.length ≤ n → parseQ l acc = some (a, r) → a.length + r.length ≤ acc.length + l.length
  | 0, l, acc, a, r, hl, h => by
    rw [List.eq_nil_of_length_eq_zero (by omega : l.length = 0), parseQ_nil] at h
    cases h
  | n + 1, [], acc, a, r, hl, h => by rw [parseQ_nil] at h; cases h
  | n + 1, c :: t, acc, a, r, hl, h => by
    rw [List.length_cons] at hl
    by_cases h1 : c = 34
    · rw [h1, parseQ_quote] at h
      cases h
      simp
    by_cases h2 : c = 92
    · subst h2
      cases t with
      | nil => rw [parseQ_esc0] at h; cases h
      | cons d t2 =>
        rw [List.length_cons] at hl
        cases hq : qpairB d
        · rw [parseQ_esc_no _ _ hq] at h; cases h
        · rw [parseQ_esc _ _ hq] at h
          have := parseQ_len n t2 _ a r (by omega) h
          simp only [List.length_append, List.length_cons, List.length_nil] at this ⊢
          omega
    cases hq : qtextB c
    · rw [parseQ_no _ _ h1 h2 hq] at h; cases h
    · rw [parseQ_text _ _ h1 h2 hq] at h
      have := parseQ_len n t _ a r (by omega) h
      simp only [List.length_append, List.length_cons, List.length_nil] at this ⊢
      omega
theorem parseA_len : ∀ (n : Nat) (l acc a r : List UInt8), l.length ≤ n → parseA l acc = some (a, r) → a.length + r.length ≤ acc.length + l.length
  | 0, l, acc, a, r, hl, h => by
    rw [List.eq_nil_of_length_eq_zero (by omega : l.length = 0), parseA_nil] at h
    cases h
    simp
  | n + 1, [], acc, a, r, hl, h => by rw [parseA_nil] at h; cases h; simp
  | n + 1, c :: t, acc, a, r, hl, h => by
    rw [List.length_cons] at hl
    by_cases h2 : c = 92
    · subst h2
      cases t with
      | nil => rw [parseA_esc0] at h; cases h
      | cons d t2 =>
        rw [List.length_cons] at hl
        rw [parseA_esc] at h
        have := parseA_len n t2 _ a r (by omega) h
        simp only [List.length_append, List.length_cons, List.length_nil] at this ⊢
        omega
    cases hq : unqB c
    · rw [parseA_stop _ _ h2 hq] at h
      cases h
      simp
    · rw [parseA_text _ _ h2 hq] at h
      have := parseA_len n t _ a r (by omega) h
      simp only [List.length_append, List.length_cons, List.length_nil] at this ⊢
      omega
theorem finishM_some {p q : List UInt8 × List UInt8} (h : finishM p = some q) : q.1 = p.1 ∧ q.2.length ≤ p.2.length := by
  obtain ⟨x, y⟩ := p
  unfold finishM at h
  cases y with
  | nil => cases h
  | cons c d =>
    simp only at h
    split at h
    · split at h
      · split at h
        · cases h
        · cases h; simp
      · cases h
    · cases h
theorem parseM_len {l : List UInt8} {p : List UInt8 × List UInt8} (h : parseM l = some p) : p.1.length ≤ l.length ∧ p.2.length ≤ l.length := by
  unfold parseM at h
  cases l with
  | nil => cases h
  | cons c r =>
    simp only at h
    split at h
    · rw [Option.bind_eq_some_iff] at h
      obtain ⟨⟨a, t⟩, h1, h2⟩ := h
      have := parseQ_len _ _ _ _ _ (Nat.le_refl _) h1
      have h3 := finishM_some h2
      simp only [List.length_nil, List.length_cons] at this ⊢
      rw [h3.1]
      have := h3.2
      simp only at this ⊢
      omega
    · rw [Option.bind_eq_some_iff] at h
      obtain ⟨⟨a, t⟩, h1, h2⟩ := h
      have := parseA_len _ _ _ _ _ (Nat.le_refl _) h1
      unfold restM at h2
      split at h2
      · have h3 := finishM_some h2
        simp only [List.length_nil, List.length_cons] at this ⊢
        rw [h3.1]
        have := h3.2
        simp only at this ⊢
        omega
      · cases h2
theorem parseM_ab : parseM (bytes ⟨#[97, 64, 98]⟩) = some ([97], [98]) :=
  parseM_local (a := [97]) (d := [98]) (fun x hx => by
    have : x = [97] := by simpa [splitDot] using hx
    subst this
    exact ⟨by simp, fun c hc => by
      have : c = 97 := by simpa using hc
      subst this; decide⟩) (by decide)
set_option maxHeartbeats 1000000 in
theorem fnMailboxAgain_walk (a0 : ByteArray) (w0 : a0.size ≤ maxLen) (w : World) :
    Calls Try.prog 17 #[.string a0] w (Ret (.bool true) w) := by
  unfold maxLen at w0
  by_cases g0 : 2147483647 < a0.size
  · go_enter Try.func17, Try.ntmps17
    go_wp2
    go_ret
    exact ⟨rfl, Below.refl _ _⟩
  have g0' : a0.size ≤ 2147483647 := by omega
  have d0' : decide (2147483647 < (a0.size : Int)) = false := by rw [decide_eq_false_iff_not]; omega
  clear g0
  by_cases g1 : 200 < a0.size
  · go_enter Try.func17, Try.ntmps17
    go_wp2
    go_ret
    exact ⟨rfl, Below.refl _ _⟩
  have g1' : a0.size ≤ 200 := by omega
  have d1' : decide (200 < (a0.size : Int)) = false := by rw [decide_eq_false_iff_not]; omega
  clear g1
  have hm := fun W => implMail_any a0 (by omega) W
  have hab := fun W => implMail_any ⟨#[97, 64, 98]⟩ (by simp [ByteArray.size_mk']) W
  rw [parseM_ab] at hab
  have HAB := Lib.hid hab
  clear hab
  cases hR : parseM (bytes a0) with
  | none =>
    rw [hR] at hm
    have HM := Lib.hid hm
    clear hm hR
    unfold mail3 at HM HAB
    go_enter Try.func17, Try.ntmps17
    go_wp2_with (first | ((with_reducible refine (HM.out _).mono ?_); rintro e w1 ⟨rfl, hb1⟩) | ((with_reducible refine (HAB.out _).mono ?_); rintro e w2 ⟨rfl, hb2⟩))
    go_ret
    exact ⟨rfl, (by repeat (first | assumption | exact Below.refl _ _ | exact Below.one _ _ | refine Below.next ?_ (by assumption)))⟩
  | some p =>
    obtain ⟨x, y⟩ := p
    have hlen := parseM_len hR
    rw [bytes_length] at hlen
    obtain ⟨hx, hy⟩ := hlen
    simp only at hx hy
    rw [hR] at hm
    dsimp only [mail3] at hm
    have HM := Lib.hid hm
    clear hm hR
    unfold mail3 at HAB
    have hsx := size_ofBytes x
    have hsy := size_ofBytes y
    have hbx := bytes_ofBytes x
    have hby := bytes_ofBytes y
    have hsx' : (ofBytes x).size ≤ 200 := by omega
    have hsy' : (ofBytes y).size ≤ 200 := by omega
    clear hsx hsy hx hy
    generalize ofBytes x = X at *
    generalize ofBytes y = Y at *
    by_cases hq : quoOk x
    rotate_left
    · have HQ := Lib.hid (fun W => quotedOk_any X (by omega) W false ⟨fun e => (by cases e), fun e => absurd (by rw [hbx] at e; exact e) hq⟩)
      clear hq hbx hby
      go_enter Try.func17, Try.ntmps17
      go_wp2_with (first | ((with_reducible refine (HM.out _).mono ?_); rintro e w1 ⟨rfl, hb1⟩) | ((with_reducible refine (HAB.out _).mono ?_); rintro e w2 ⟨rfl, hb2⟩) | ((with_reducible refine (HQ.out _).mono ?_); rintro e w3 ⟨rfl, hb3⟩))
      go_ret
      exact ⟨rfl, (by repeat (first | assumption | exact Below.refl _ _ | exact Below.one _ _ | refine Below.next ?_ (by assumption)))⟩
    have HQ := Lib.hid (fun W => quotedOk_any X (by omega) W true ⟨fun _ => by rw [hbx]; exact hq, fun _ => rfl⟩)
    have hnm := fun W => nameOk_any Y (by omega) W
    cases hn : nameOk (bytes Y)
    · rw [hn] at hnm
      have HN := Lib.hid hnm
      clear hq hbx hby hnm hn
      go_enter Try.func17, Try.ntmps17
      go_wp2_with (first | ((with_reducible refine (HM.out _).mono ?_); rintro e w1 ⟨rfl, hb1⟩) | ((with_reducible refine (HAB.out _).mono ?_); rintro e w2 ⟨rfl, hb2⟩) | ((with_reducible refine (HQ.out _).mono ?_); rintro e w3 ⟨rfl, hb3⟩) | ((with_reducible refine (HN.out _).mono ?_); rintro e w4 ⟨rfl, hb4⟩))
      go_ret
      exact ⟨rfl, (by repeat (first | assumption | exact Below.refl _ _ | exact Below.one _ _ | refine Below.next ?_ (by assumption)))⟩
    rw [hn] at hnm
    have HN := Lib.hid hnm
    have HQD := Lib.hid (fun W => quoted_any X false (by omega) W)
    have hql := quoL_length false (bytes X)
    rw [bytes_length] at hql
    have e1 : bytes ((ofBytes (quoL false (bytes X)) ++ ⟨#[64]⟩) ++ Y) = quoL false (bytes X) ++ 64 :: bytes Y := by rw [bytes_append, bytes_append, List.append_assoc, bytes_ofBytes]; rfl
    have hm2 := fun W => implMail_any ((ofBytes (quoL false (bytes X)) ++ ⟨#[64]⟩) ++ Y) (by rw [ByteArray.size_append, ByteArray.size_append, size_ofBytes, show (⟨#[64]⟩ : ByteArray).size = 1 from rfl]; omega) W
    rw [e1, parseM_quoted false (by rw [hbx]; exact hq) hn] at hm2
    unfold mail3 at hm2
    simp only [ofBytes_bytes] at hm2
    have HM2 := Lib.hid hm2
    have hqs : (ofBytes (quoL false (bytes X))).size ≤ 2097154 := by rw [size_ofBytes]; omega
    clear hm2 e1 hql hnm hn hq hbx hby
    generalize ofBytes (quoL false (bytes X)) = q at *
    go_enter Try.func17, Try.ntmps17
    go_wp2_with (first | ((with_reducible refine (HM.out _).mono ?_); rintro e w1 ⟨rfl, hb1⟩) | ((with_reducible refine (HAB.out _).mono ?_); rintro e w2 ⟨rfl, hb2⟩) | ((with_reducible refine (HQ.out _).mono ?_); rintro e w3 ⟨rfl, hb3⟩) | ((with_reducible refine (HN.out _).mono ?_); rintro e w4 ⟨rfl, hb4⟩) | ((with_reducible refine (HQD.out _).mono ?_); rintro e w5 ⟨rfl, hb5⟩) | ((with_reducible refine (HM2.out _).mono ?_); rintro e w6 ⟨rfl, hb6⟩))
    go_ret
    exact ⟨rfl, (by repeat (first | assumption | exact Below.refl _ _ | exact Below.one _ _ | refine Below.next ?_ (by assumption)))⟩

set_option maxRecDepth 100000 in
set_option linter.unusedVariables false in
theorem fnMailboxAgain_lifted (os : Os) (started : os.Started) (H : Type) (enc : TypeId × Value → H) :
    ReturnsInHanded {} Try.checked os 17 .any (Rows.fnMailboxAgainSpec.pre6 enc Try.prog Try.f17 Rows.fnMailboxAgainRow.domain false) (Rows.fnMailboxAgainSpec.post enc Try.prog Try.f17 false true false false) := by
  refine returnsInHanded_of_change (C := Try.checked) own started (by kernel_rfl) Try.func17
    (ChangeSpec.witness6 (enc := enc) (C := Try.checked) false ⟨#[], #[.string ByteArray.empty], []⟩ 8 (by kernel_rfl) (by kernel_rfl) (by kernel_rfl) (by kernel_rfl)) ?_
  intro W base args ds gs before hval0 hW hcnd _
  have hval : ∀ (j : Nat) t v, Try.f17.params[j]? = some t → args[j]? = some v → Value.okWide Try.prog W .any base t v := hval0
  have hW' := hW
  obtain ⟨p, q, hA0, hV, rfl, hfz, hnd⟩ := hW
  have hA : DataW.TrodAll enc Try.prog W 0 (fun _ => true) true Try.f17.params.toList args.toList ds p := hA0
  rw [Try.params17] at hA hval
  obtain ⟨v0, vs0, d0, ds0, p0, q0, hargs, rfl, rfl, h0, r0⟩ := trodAll_cons hA
  obtain ⟨rfl, rfl, rfl⟩ := trodAll_nil r0
  obtain rfl : args = #[v0] := by cases args; simp_all
  obtain ⟨rfl, rfl⟩ := trodVars_none hV
  obtain ⟨a0, rfl, rfl, rfl, w0⟩ := open_string Try.underlying9 (hval 0 9 v0 rfl rfl) h0
  clear hA0 hval0
  refine (fnMailboxAgain_walk a0 w0 W).mono fun e W' ⟨he, bel⟩ => ?_
  subst he
  exact ⟨_, rfl, _, _, _, [], _, [], hW', trodAll_mk1 (shut_bool Try.underlying4 _), (trodAll_cons_mk (shut_string Try.underlying9 w0) trodAll_mk0), rfl, bel.frame _, fun h => by cases h⟩
theorem fnMailboxAgain_facts : joinedFacts Try.prog 17 Try.f17 Rows.fnMailboxAgainSpec Rows.fnMailboxAgainRow = true :=
  facts_of rfl head_enter head_lifts head_make rfl rfl (by kernel_rfl) (by kernel_rfl) (by kernel_rfl) (by kernel_rfl) (by kernel_rfl)
theorem fnMailboxAgain_over : Rows.fnMailboxAgainRow.holds Try.pinned (OpenSpec.ofChange Rows.fnMailboxAgainSpec) :=
  OpenClaim.holds_of_wide 17 Try.f17 rfl rfl rfl rfl rfl rfl rfl ⟨rfl, rfl, rfl, rfl, rfl⟩ rfl rfl rfl rfl rfl (by kernel_rfl) Try.func17 fnMailboxAgain_facts
    (of_decide_eq_true (by kernel_rfl)) (by unfold Func.isWrapper; first | (rw [if_pos (by decide +kernel)]; kernel_rfl) | (rw [if_neg (by decide +kernel)]; exact ⟨rfl, rfl⟩))
    (fun os started H enc _ => fnMailboxAgain_lifted os started H enc)
theorem fnMailboxAgain_holds : Rows.FnMailboxAgainSaid := fnMailboxAgain_over
end Go.Proofs.Ytdnbbodolpgphaa
