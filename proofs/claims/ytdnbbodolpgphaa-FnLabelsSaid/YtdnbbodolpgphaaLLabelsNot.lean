/-
  FnLabelsNot holds: a domain with a label of nothing in its middle, or with a byte that is not visible, has no labels. For every input; no condition.
-/
import Derived.Test.YtdnbbodolpgphaaW12
namespace Go.Proofs.Ytdnbbodolpgphaa
open Go.ChangeShapes Go.WideShapes Go.ChangeAt Go.RowKit
open Go.ChangeMaps (open_string shut_string)

theorem below_step {a b : World} (h : Below a.heap.size a b) (o : Obj) : Below a.heap.size a (b.alloc o) := h.alloc h.size o
theorem okL_mid (a b : List UInt8) : okL (a ++ 46 :: 46 :: b) = false := by
  unfold okL validN
  have h1 : (splitDot (a ++ 46 :: 46 :: b)).all (fun x => !x.isEmpty) = false := by
    rw [splitDot_append, List.all_append]
    have : (splitDot (46 :: b)).all (fun x => !x.isEmpty) = false := by simp [splitDot]
    rw [this, Bool.and_false]
  rw [h1, Bool.and_false]
  simp
theorem okL_bad (a b : List UInt8) (c : UInt8) (h : visB c.toNat = false) : okL (a ++ c :: b) = false := by
  unfold okL validN
  have h1 : (a ++ c :: b).all (fun c => visB c.toNat) = false := by
    rw [List.all_eq_false]
    exact ⟨c, by simp, by simp [h]⟩
  rw [h1]
  simp
theorem okL_two {a b : List UInt8} (ha : nameOk a = true) (hb : nameOk b = true) : okL (a ++ 46 :: b) = true := by
  have va := nameOk_validN ha
  have vb := nameOk_validN hb
  unfold validN at va vb
  rw [Bool.and_eq_true] at va vb
  unfold okL validN
  rw [splitDot_append, List.all_append, List.all_append, List.all_cons, va.1, va.2, vb.1, vb.2]
  simp
  rfl
theorem labels_ok (s : ByteArray) (hs : s.size ≤ 1073741824) (b : Bool) (hb : okL (bytes s) = b) (W : World) : Calls Try.prog 32 #[.string s] W (fun e w' => ∃ v, e = .returned (.tuple #[v, .bool b]) ∧ Below W.heap.size W w') :=
  (implLabels_any s hs W).mono fun e w' ⟨v, he, _, hw⟩ => ⟨v, by rw [he, hb], hw⟩
theorem conv_one (z : Int) (h0 : 0 ≤ z) (h1 : z < 256) (W : World) :
    (convert 33 9 (.slice (some ⟨W.heap.size, 0, none⟩) 1 1)).run Try.prog (W.alloc (.cells #[.int .u8 z] 5)) = .ok (.string ⟨#[UInt8.ofNat z.toNat]⟩) (W.alloc (.cells #[.int .u8 z] 5)) := by
  refine conv_back _ _ 1 [UInt8.ofNat z.toNat] 1 rfl ?_
  have := Rd.new W #[.int .u8 z] 5
  have e : ((UInt8.ofNat z.toNat).toNat : Int) = z := by simp [UInt8.toNat_ofNat']; omega
  unfold u8s
  simp only [List.map_cons, List.map_nil, e]
  exact this

set_option maxHeartbeats 4000000 in
theorem fnLabelsNot_walk (a0 : ByteArray) (w0 : a0.size ≤ maxLen) (a1 : ByteArray) (w1 : a1.size ≤ maxLen) (a2 : Int) (w2 : (Lit.int .u8 a2).wf = true) (w : World) :
    Calls Try.prog 10 #[.string a0, .string a1, .int .u8 a2] w (Ret (.bool true) w) := by
  have bd := bounds_u8 w2
  clear w2
  obtain ⟨bd1, bd2⟩ := bd
  unfold maxLen at w0 w1
  by_cases g0 : 2147483647 < a0.size
  · go_enter Try.func10, Try.ntmps10
    go_wp2
    go_ret
    exact ⟨rfl, Below.refl _ _⟩
  by_cases g1 : 2147483647 < a1.size
  · go_enter Try.func10, Try.ntmps10
    go_wp2
    go_ret
    exact ⟨rfl, Below.refl _ _⟩
  by_cases gb : 1048576 < a0.size ∨ 1048576 < a1.size
  · have HB := Lib.hid (fun W => beyond2 a0.size a1.size true (by simpa using gb) W)
    clear gb
    go_enter Try.func10, Try.ntmps10
    go_wp2_with ((go_at_call 20; refine (HB.out _).mono ?_; rintro e w' ⟨rfl, rfl⟩))
    go_ret
    exact ⟨rfl, (by repeat (first | assumption | exact Below.refl _ _ | exact Below.one _ _ | refine Below.next ?_ (by assumption)))⟩
  have HB := Lib.hid (fun W => beyond2 a0.size a1.size false (by simpa using gb) W)
  have z0 : a0.size ≤ 1048576 := by omega
  have z1 : a1.size ≤ 1048576 := by omega
  clear gb
  have hna := fun W => nameOk_any a0 (by omega) W
  have hnb := fun W => nameOk_any a1 (by omega) W
  cases na : nameOk (bytes a0)
  · rw [na] at hna
    have HNa := Lib.hid hna
    clear hna hnb na
    go_enter Try.func10, Try.ntmps10
    go_wp2_with (first | (go_at_call 20; refine (HB.out _).mono ?_; rintro e w' ⟨rfl, rfl⟩) | ((with_reducible refine (HNa.out _).mono ?_); rintro e w1 ⟨rfl, hb1⟩))
    go_ret
    exact ⟨rfl, (by repeat (first | assumption | exact Below.refl _ _ | exact Below.one _ _ | refine Below.next ?_ (by assumption)))⟩
  rw [na] at hna
  have HNa := Lib.hid hna
  have na' := Lib.hid na
  clear hna na
  cases nb : nameOk (bytes a1)
  · rw [nb] at hnb
    have HNb := Lib.hid hnb
    clear hnb nb
    go_enter Try.func10, Try.ntmps10
    go_wp2_with (first | (go_at_call 20; refine (HB.out _).mono ?_; rintro e w' ⟨rfl, rfl⟩) | ((with_reducible refine (HNa.out _).mono ?_); rintro e w1 ⟨rfl, hb1⟩) | ((with_reducible refine (HNb.out _).mono ?_); rintro e w2 ⟨rfl, hb2⟩))
    go_ret
    exact ⟨rfl, (by repeat (first | assumption | exact Below.refl _ _ | exact Below.one _ _ | refine Below.next ?_ (by assumption)))⟩
  rw [nb] at hnb
  have HNb := Lib.hid hnb
  have nb' := Lib.hid nb
  clear hnb nb
  have hz : ∃ z : Int, 0 ≤ z ∧ z < 256 ∧ visB (UInt8.ofNat z.toNat).toNat = false ∧ ((33 ≤ a2 ∧ a2 ≤ 126 ∧ z = a2 % 33) ∨ (a2 < 33 ∧ z = a2) ∨ (33 ≤ a2 ∧ decide (a2 ≤ 126) = false ∧ z = a2)) := by
    by_cases h1 : 33 ≤ a2
    · by_cases h2 : a2 ≤ 126
      · refine ⟨a2 % 33, by omega, by omega, ?_, .inl ⟨h1, h2, rfl⟩⟩
        unfold visB; simp [UInt8.toNat_ofNat']; omega
      · refine ⟨a2, by omega, by omega, ?_, .inr (.inr ⟨h1, decide_eq_false h2, rfl⟩)⟩
        unfold visB; simp [UInt8.toNat_ofNat']; omega
    · refine ⟨a2, by omega, by omega, ?_, .inr (.inl ⟨by omega, rfl⟩)⟩
      unfold visB; simp [UInt8.toNat_ofNat']; omega
  obtain ⟨z, hz0, hz1, hzv, hzc⟩ := hz
  have hconv := fun W => conv_one z hz0 hz1 W
  have L1 := Lib.hid (fun W => labels_ok ((a0 ++ ⟨#[46, 46]⟩) ++ a1) (by simp [ByteArray.size_mk']; omega) false (by rw [bytes_append, bytes_append, List.append_assoc]; exact okL_mid _ _) W)
  have L2 := Lib.hid (fun W => labels_ok ((a0 ++ ⟨#[UInt8.ofNat z.toNat]⟩) ++ a1) (by simp [ByteArray.size_mk']; omega) false (by rw [bytes_append, bytes_append, List.append_assoc]; exact okL_bad _ _ _ hzv) W)
  have L3 := Lib.hid (fun W => labels_ok ((a0 ++ ⟨#[46]⟩) ++ a1) (by simp [ByteArray.size_mk']; omega) true (by rw [bytes_append, bytes_append, List.append_assoc]; exact okL_two na'.out nb'.out) W)
  clear hzv
  rcases hzc with ⟨h1, h2, rfl⟩ | ⟨h1, rfl⟩ | ⟨h1, h2, rfl⟩
  all_goals
    go_enter Try.func10, Try.ntmps10
    go_wp2_with (first | (go_at_call 20; refine (HB.out _).mono ?_; rintro e w' ⟨rfl, rfl⟩) | ((with_reducible refine (HNa.out _).mono ?_); rintro e w1 ⟨rfl, hb1⟩) | ((with_reducible refine (HNb.out _).mono ?_); rintro e w2 ⟨rfl, hb2⟩) | ((with_reducible refine (L1.out _).mono ?_); rintro e w3 ⟨v3, rfl, hb3⟩) | ((with_reducible refine (L2.out _).mono ?_); rintro e w4 ⟨v4, rfl, hb4⟩) | ((with_reducible refine (L3.out _).mono ?_); rintro e w5 ⟨v5, rfl, hb5⟩))
    go_ret
    exact ⟨rfl, by repeat (first | assumption | exact Below.refl _ _ | exact Below.one _ _ | refine Below.next ?_ (by assumption) | refine below_step ?_ _)⟩

set_option maxRecDepth 100000 in
set_option linter.unusedVariables false in
theorem fnLabelsNot_lifted (os : Os) (started : os.Started) (H : Type) (enc : TypeId × Value → H) :
    ReturnsInHanded {} Try.checked os 10 .any (Rows.fnLabelsNotSpec.pre6 enc Try.prog Try.f10 Rows.fnLabelsNotRow.domain false) (Rows.fnLabelsNotSpec.post enc Try.prog Try.f10 false true false false) := by
  refine returnsInHanded_of_change (C := Try.checked) own started (by kernel_rfl) Try.func10
    (ChangeSpec.witness6 (enc := enc) (C := Try.checked) false ⟨#[], #[.string ByteArray.empty, .string ByteArray.empty, .int .u8 0], []⟩ 8 (by kernel_rfl) (by kernel_rfl) (by kernel_rfl) (by kernel_rfl)) ?_
  intro W base args ds gs before hval0 hW hcnd _
  have hval : ∀ (j : Nat) t v, Try.f10.params[j]? = some t → args[j]? = some v → Value.okWide Try.prog W .any base t v := hval0
  have hW' := hW
  obtain ⟨p, q, hA0, hV, rfl, hfz, hnd⟩ := hW
  have hA : DataW.TrodAll enc Try.prog W 0 (fun _ => true) true Try.f10.params.toList args.toList ds p := hA0
  rw [Try.params10] at hA hval
  obtain ⟨v0, vs0, d0, ds0, p0, q0, hargs, rfl, rfl, h0, r0⟩ := trodAll_cons hA
  obtain ⟨v1, vs1, d1, ds1, p1, q1, rfl, rfl, rfl, h1, r1⟩ := trodAll_cons r0
  obtain ⟨v2, vs2, d2, ds2, p2, q2, rfl, rfl, rfl, h2, r2⟩ := trodAll_cons r1
  obtain ⟨rfl, rfl, rfl⟩ := trodAll_nil r2
  obtain rfl : args = #[v0, v1, v2] := by cases args; simp_all
  obtain ⟨rfl, rfl⟩ := trodVars_none hV
  obtain ⟨a0, rfl, rfl, rfl, w0⟩ := open_string Try.underlying9 (hval 0 9 v0 rfl rfl) h0
  obtain ⟨a1, rfl, rfl, rfl, w1⟩ := open_string Try.underlying9 (hval 1 9 v1 rfl rfl) h1
  obtain ⟨a2, rfl, rfl, rfl, w2⟩ := open_int Try.underlying5 (hval 2 5 v2 rfl rfl) h2
  clear hA0 hval0
  refine (fnLabelsNot_walk a0 w0 a1 w1 a2 w2 W).mono fun e W' ⟨he, bel⟩ => ?_
  subst he
  exact ⟨_, rfl, _, _, _, [], _, [], hW', trodAll_mk1 (shut_bool Try.underlying4 _), (trodAll_cons_mk (shut_string Try.underlying9 w0) (trodAll_cons_mk (shut_string Try.underlying9 w1) (trodAll_cons_mk (shut_int Try.underlying5 w2) trodAll_mk0))), rfl, bel.frame _, fun h => by cases h⟩
theorem fnLabelsNot_facts : joinedFacts Try.prog 10 Try.f10 Rows.fnLabelsNotSpec Rows.fnLabelsNotRow = true :=
  facts_of rfl head_enter head_lifts head_make rfl rfl (by kernel_rfl) (by kernel_rfl) (by kernel_rfl) (by kernel_rfl) (by kernel_rfl)
theorem fnLabelsNot_over : Rows.fnLabelsNotRow.holds Try.pinned (OpenSpec.ofChange Rows.fnLabelsNotSpec) :=
  OpenClaim.holds_of_wide 10 Try.f10 rfl rfl rfl rfl rfl rfl rfl ⟨rfl, rfl, rfl, rfl, rfl⟩ rfl rfl rfl rfl rfl (by kernel_rfl) Try.func10 fnLabelsNot_facts
    (of_decide_eq_true (by kernel_rfl)) (by unfold Func.isWrapper; first | (rw [if_pos (by decide +kernel)]; kernel_rfl) | (rw [if_neg (by decide +kernel)]; exact ⟨rfl, rfl⟩))
    (fun os started H enc _ => fnLabelsNot_lifted os started H enc)
theorem fnLabelsNot_holds : Rows.FnLabelsNotSaid := fnLabelsNot_over
end Go.Proofs.Ytdnbbodolpgphaa
