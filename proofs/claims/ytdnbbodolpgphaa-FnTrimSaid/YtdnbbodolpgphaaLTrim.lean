/-
  FnTrim holds: a name from its first dot on, or nothing. For every input; no condition.
-/
import Derived.Test.YtdnbbodolpgphaaW4
namespace Go.Proofs.Ytdnbbodolpgphaa
open Go.ChangeShapes Go.WideShapes Go.ChangeAt Go.RowKit
open Go.ChangeMaps (open_string shut_string)

theorem splitDot_length_one {l : List UInt8} (h : (splitDot l).length = 1) : ∀ c ∈ l, c ≠ 46 := by
  induction l with
  | nil => simp
  | cons c r ih =>
    unfold splitDot at h
    by_cases hc : c = 46
    · rw [if_pos hc] at h
      have := List.length_pos_iff.2 (splitDot_ne r)
      simp at h
      exact absurd h (splitDot_ne r)
    · rw [if_neg hc] at h
      have hr : (splitDot r).length = 1 := by
        split at h
        · rename_i e; rw [e]; simpa using h
        · rename_i e; exact absurd e (splitDot_ne r)
      intro x hx
      rcases List.mem_cons.1 hx with rfl | hx
      · exact hc
      · exact ih hr x hx
theorem trimL_noDot {l : List UInt8} (h : ∀ c ∈ l, c ≠ 46) : trimL l = [] := by
  unfold trimL
  induction l with
  | nil => rfl
  | cons c r ih =>
    have hc : (c != 46) = true := by simp [h c (by simp)]
    rw [List.dropWhile_cons, hc]
    simpa using ih (fun x hx => h x (by simp [hx]))
theorem trimL_at {a b : List UInt8} (h : ∀ c ∈ a, c ≠ 46) : trimL (a ++ 46 :: b) = 46 :: b := by
  unfold trimL
  induction a with
  | nil => simp
  | cons c r ih =>
    have hc : (c != 46) = true := by simp [h c (by simp)]
    rw [List.cons_append, List.dropWhile_cons, hc]
    simpa using ih (fun x hx => h x (by simp [hx]))
theorem bytes_append (a b : ByteArray) : bytes (a ++ b) = bytes a ++ bytes b := by simp [bytes]

set_option maxHeartbeats 1000000 in
theorem fnTrim_walk (a0 : ByteArray) (w0 : a0.size ≤ maxLen) (a1 : ByteArray) (w1 : a1.size ≤ maxLen) (w : World) :
    Calls Try.prog 3 #[.string a0, .string a1] w (Ret (.bool true) w) := by
  unfold maxLen at w0 w1
  by_cases g0 : 2147483647 < a0.size
  · go_enter Try.func3, Try.ntmps3
    go_wp2
    go_ret
    exact ⟨rfl, Below.refl _ _⟩
  by_cases g1 : 2147483647 < a1.size
  · go_enter Try.func3, Try.ntmps3
    go_wp2
    go_ret
    exact ⟨rfl, Below.refl _ _⟩
  have hmax : (2147483648 : Nat) ≤ 9223372036854775807 := by omega
  by_cases gb : 1048576 < a0.size ∨ 1048576 < a1.size
  · have hbey := fun W => beyond2 a0.size a1.size true (by simpa using gb) W
    have HB := Lib.hid hbey
    clear hbey gb
    go_enter Try.func3, Try.ntmps3
    go_wp2_with (go_at_call 20; refine (HB.out _).mono ?_; rintro e w' ⟨rfl, rfl⟩)
    go_ret
    exact ⟨rfl, (Below.refl _ _).alloc (Nat.le_refl _) _⟩
  have HB := Lib.hid (fun W => beyond2 a0.size a1.size false (by simpa using gb) W)
  have g2 : a0.size ≤ 1048576 ∧ a1.size ≤ 1048576 := by omega
  obtain ⟨g2, g3⟩ := g2
  clear gb g0 g1 w0 w1
  have hn := fun W => nameOk_any (a0 ++ ⟨#[46, 97]⟩) (by simp [ByteArray.size_mk']; omega) W
  by_cases gn : nameOk (bytes (a0 ++ ⟨#[46, 97]⟩)) = true
  · simp only [gn] at hn
    have HN := Lib.hid hn
    clear hn gn
    have hlab := fun W => labels_any a0 (by omega) W
    have HL := Lib.hid hlab
    clear hlab
    have g1 : (labelsB (bytes a0)).length ≤ 1048577 := by
      have := splitDot_length_le (bytes a0)
      rw [bytes_length] at this
      simp [labelsB]; omega
    by_cases gl : (labelsB (bytes a0)).length = 1
    · have nd := splitDot_length_one (l := bytes a0) (by simpa [labelsB] using gl)
      have t1 := fun W => trim_any a0 (by omega) W
      rw [trimL_noDot nd] at t1
      have t2 := fun W => trim_any ((a0 ++ ⟨#[46]⟩) ++ a1) (by simp [ByteArray.size_mk']; omega) W
      have e2 : ofBytes (trimL (bytes ((a0 ++ ⟨#[46]⟩) ++ a1))) = ⟨#[46]⟩ ++ a1 := by
        rw [bytes_append, bytes_append, List.append_assoc]
        refine bytes_inj ?_
        rw [bytes_ofBytes, bytes_append]
        exact trimL_at nd
      rw [e2] at t2
      have T1 := Lib.hid t1
      have T2 := Lib.hid t2
      have hb1 : (((labelsB (bytes a0)).length : Int) == 1) = true := by simp [gl]
      clear e2 t1 t2 nd gl
      by_cases gr : 1000 < a1.size
      all_goals
        go_enter Try.func3, Try.ntmps3
        go_wp2_with (first | (go_at_call 20; refine (HB.out _).mono ?_; rintro e w' ⟨rfl, rfl⟩) | (go_at_call 21; refine (HN.out _).mono ?_; rintro e w' ⟨rfl, hb⟩) | (go_at_call 22; refine (HL.out _).mono ?_; rintro e w2 ⟨v, rfl, hown, hb2⟩; obtain ⟨A, cap, rfl, hnc, hcap, hrd, -⟩ := Rd.own hown; clear hown hrd) | ((with_reducible refine (T2.out _).mono ?_); rintro e w' ⟨rfl, rfl⟩) | ((with_reducible refine (T1.out _).mono ?_); rintro e w' ⟨rfl, rfl⟩))
        go_ret
        exact ⟨ret_bool (by first | (simp [ofBytes]; done) | (simp [ofBytes]; omega)), Below.next (Below.next (Below.one _ _) hb) hb2⟩
    · have hb1 : (((labelsB (bytes a0)).length : Int) == 1) = false := by simp; omega
      clear gl
      go_enter Try.func3, Try.ntmps3
      go_wp2_with (first | (go_at_call 20; refine (HB.out _).mono ?_; rintro e w' ⟨rfl, rfl⟩) | (go_at_call 21; refine (HN.out _).mono ?_; rintro e w' ⟨rfl, hb⟩) | (go_at_call 22; refine (HL.out _).mono ?_; rintro e w2 ⟨v, rfl, hown, hb2⟩; obtain ⟨A, cap, rfl, hnc, hcap, hrd, -⟩ := Rd.own hown; clear hown hrd))
      go_ret
      exact ⟨rfl, Below.next (Below.next (Below.one _ _) hb) hb2⟩
  · have gn' : nameOk (bytes (a0 ++ ⟨#[46, 97]⟩)) = false := by simpa using gn
    simp only [gn'] at hn
    have HN := Lib.hid hn
    clear hn gn gn'
    go_enter Try.func3, Try.ntmps3
    go_wp2_with (first | (go_at_call 20; refine (HB.out _).mono ?_; rintro e w' ⟨rfl, rfl⟩) | (go_at_call 21; refine (HN.out _).mono ?_; rintro e w' ⟨rfl, hb⟩))
    go_ret
    exact ⟨rfl, Below.next (Below.one _ _) hb⟩

set_option maxRecDepth 100000 in
set_option linter.unusedVariables false in
theorem fnTrim_lifted (os : Os) (started : os.Started) (H : Type) (enc : TypeId × Value → H) :
    ReturnsInHanded {} Try.checked os 3 .any (Rows.fnTrimSpec.pre6 enc Try.prog Try.f3 Rows.fnTrimRow.domain false) (Rows.fnTrimSpec.post enc Try.prog Try.f3 false true false false) := by
  refine returnsInHanded_of_change (C := Try.checked) own started (by kernel_rfl) Try.func3
    (ChangeSpec.witness6 (enc := enc) (C := Try.checked) false ⟨#[], #[.string ByteArray.empty, .string ByteArray.empty], []⟩ 8 (by kernel_rfl) (by kernel_rfl) (by kernel_rfl) (by kernel_rfl)) ?_
  intro W base args ds gs before hval0 hW hcnd _
  have hval : ∀ (j : Nat) t v, Try.f3.params[j]? = some t → args[j]? = some v → Value.okWide Try.prog W .any base t v := hval0
  have hW' := hW
  obtain ⟨p, q, hA0, hV, rfl, hfz, hnd⟩ := hW
  have hA : DataW.TrodAll enc Try.prog W 0 (fun _ => true) true Try.f3.params.toList args.toList ds p := hA0
  rw [Try.params3] at hA hval
  obtain ⟨v0, vs0, d0, ds0, p0, q0, hargs, rfl, rfl, h0, r0⟩ := trodAll_cons hA
  obtain ⟨v1, vs1, d1, ds1, p1, q1, rfl, rfl, rfl, h1, r1⟩ := trodAll_cons r0
  obtain ⟨rfl, rfl, rfl⟩ := trodAll_nil r1
  obtain rfl : args = #[v0, v1] := by cases args; simp_all
  obtain ⟨rfl, rfl⟩ := trodVars_none hV
  obtain ⟨a0, rfl, rfl, rfl, w0⟩ := open_string Try.underlying9 (hval 0 9 v0 rfl rfl) h0
  obtain ⟨a1, rfl, rfl, rfl, w1⟩ := open_string Try.underlying9 (hval 1 9 v1 rfl rfl) h1
  clear hA0 hval0
  refine (fnTrim_walk a0 w0 a1 w1 W).mono fun e W' ⟨he, bel⟩ => ?_
  subst he
  exact ⟨_, rfl, _, _, _, [], _, [], hW', trodAll_mk1 (shut_bool Try.underlying4 _), (trodAll_cons_mk (shut_string Try.underlying9 w0) (trodAll_cons_mk (shut_string Try.underlying9 w1) trodAll_mk0)), rfl, bel.frame _, fun h => by cases h⟩
theorem fnTrim_facts : joinedFacts Try.prog 3 Try.f3 Rows.fnTrimSpec Rows.fnTrimRow = true :=
  facts_of rfl head_enter head_lifts head_make rfl rfl (by kernel_rfl) (by kernel_rfl) (by kernel_rfl) (by kernel_rfl) (by kernel_rfl)
theorem fnTrim_over : Rows.fnTrimRow.holds Try.pinned (OpenSpec.ofChange Rows.fnTrimSpec) :=
  OpenClaim.holds_of_wide 3 Try.f3 rfl rfl rfl rfl rfl rfl rfl ⟨rfl, rfl, rfl, rfl, rfl⟩ rfl rfl rfl rfl rfl (by kernel_rfl) Try.func3 fnTrim_facts
    (of_decide_eq_true (by kernel_rfl)) (by unfold Func.isWrapper; first | (rw [if_pos (by decide +kernel)]; kernel_rfl) | (rw [if_neg (by decide +kernel)]; exact ⟨rfl, rfl⟩))
    (fun os started H enc _ => fnTrim_lifted os started H enc)
theorem fnTrim_holds : Rows.FnTrimSaid := fnTrim_over
end Go.Proofs.Ytdnbbodolpgphaa
