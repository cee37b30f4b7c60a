/-
  FnHostname holds: the name of a host is one; with a star as its first label it is a pattern alone; with a label of nothing it is neither. For every input; no condition.
-/
import Derived.Test.YtdnbbodolpgphaaW17
import Derived.Test.YtdnbbodolpgphaaPValid
import Derived.Test.YtdnbbodolpgphaaLSplit
namespace Go.Proofs.Ytdnbbodolpgphaa
open Go.ChangeShapes Go.WideShapes Go.ChangeAt Go.RowKit
open Go.ChangeMaps (open_string shut_string)

def partL (pat : Bool) (i : Nat) (x : List UInt8) : Prop := x ≠ [] ∧ ((pat = true ∧ i = 0 ∧ x = [42]) ∨ ∀ j (h : j < x.length), hostB (x[j]).toNat j = true)
theorem ofBytes_get (l : List UInt8) (j : Nat) (h : j < (ofBytes l).size) (h' : j < l.length) : (ofBytes l)[j]'h = l[j]'h' := by
  have h2 : j < (bytes (ofBytes l)).length := by rw [bytes_ofBytes]; exact h'
  refine (bytes_ix (ofBytes l) j h h2).symm.trans ?_
  simp only [bytes_ofBytes]
theorem partP_iff (pat : Bool) (i : Nat) (x : List UInt8) : partP pat i (ofBytes x) ↔ partL pat i x := by
  have hsz := size_ofBytes x
  unfold partP partL
  refine and_congr ⟨fun h e => h (by rw [hsz, e]; rfl), fun h e => h (List.eq_nil_of_length_eq_zero (hsz.symm.trans e))⟩ (or_congr ?_ ⟨fun h j hj => ?_, fun h j hj => ?_⟩)
  · rw [ofBytes, ByteArray.toList_mk]
  · have hj' : j < (ofBytes x).size := by rw [hsz]; exact hj
    exact (congrArg (fun c : UInt8 => hostB c.toNat j) (ofBytes_get x j hj' hj)).symm.trans (h j hj')
  · have hj' : j < x.length := by rw [← hsz]; exact hj
    exact (congrArg (fun c : UInt8 => hostB c.toNat j) (ofBytes_get x j hj hj')).trans (h j hj')
theorem hostQ_iff (pat : Bool) (l : List UInt8) : hostQ pat (labelsB l) ↔ ∀ i (h : i < (splitDot l).length), partL pat i ((splitDot l)[i]) := by
  unfold hostQ labelsB
  constructor
  · intro h i hi
    have := h i (by rw [List.length_map]; exact hi)
    rw [List.getElem_map] at this
    exact (partP_iff _ _ _).1 this
  · intro h i hi
    rw [List.getElem_map]
    exact (partP_iff _ _ _).2 (h i (by rw [List.length_map] at hi; exact hi))
theorem ok_host {n j : Nat} (h : okByte n = true) (h0 : j = 0 → n ≠ 45) : hostB n j = true := by
  unfold okByte low at h
  unfold hostB
  simp at h ⊢
  split at h <;> omega
theorem name_part {l : List UInt8} (h : labelOk l = true) (pat : Bool) (i : Nat) : partL pat i l := by
  have hl := labelOk_ne h
  refine ⟨fun e => by rw [e] at hl; simp at hl, .inr fun j hj => ?_⟩
  unfold labelOk at h
  simp only [Bool.and_eq_true, List.all_eq_true] at h
  refine ok_host (h.2 _ (List.getElem_mem hj)) fun e => ?_
  subst e
  intro e
  have h3 := h.1.1.2
  rw [List.head?_eq_getElem?, List.getElem?_eq_getElem hj] at h3
  have : l[0] = 45 := UInt8.toNat_inj.1 (by rw [e]; rfl)
  rw [this] at h3
  exact absurd h3 (by decide)
theorem name_host {l : List UInt8} (h : nameOk l = true) (pat : Bool) : hostP pat l := by
  refine ⟨fun e => by rw [e] at h; exact absurd h (by decide), fun e => by rw [e] at h; exact absurd h (by decide), ?_⟩
  rw [hostQ_iff]
  exact fun i hi => name_part (nameOk_labels h _ (List.getElem_mem hi)) _ _
theorem star_host {l : List UInt8} (h : nameOk l = true) : hostP true (42 :: 46 :: l) := by
  refine ⟨by simp, by simp, ?_⟩
  rw [hostQ_iff]
  have e : splitDot (42 :: 46 :: l) = [42] :: splitDot l := rfl
  intro i hi
  rcases i with _ | i
  · simp only [e, List.getElem_cons_zero]
    exact ⟨by simp, .inl ⟨rfl, rfl, rfl⟩⟩
  · simp only [e, List.getElem_cons_succ]
    exact name_part (nameOk_labels h _ (List.getElem_mem _)) _ _
theorem star_bad {pat : Bool} {i : Nat} (h : pat = true → i ≠ 0) : ¬ partL pat i [42] := by
  rintro ⟨-, ⟨h1, h2, -⟩ | h1⟩
  · exact h h1 h2
  · have := h1 0 (by simp)
    simp [hostB] at this
theorem mem_bad {pat : Bool} {l : List UInt8} (p q : List (List UInt8)) (x : List UInt8) (e : splitDot l = p ++ x :: q) (h : ¬ partL pat p.length x) : ¬ hostP pat l := by
  rintro ⟨-, -, hq⟩
  rw [hostQ_iff] at hq
  apply h
  have := hq p.length (by rw [e]; simp)
  simp only [e] at this
  rw [List.getElem_append_right (Nat.le_refl _)] at this
  simpa using this
theorem star_not (l : List UInt8) : ¬ hostP false (42 :: 46 :: l) := mem_bad [] (splitDot l) [42] rfl (star_bad (by simp))
theorem mid_not (a b : List UInt8) (pat : Bool) : ¬ hostP pat (a ++ 46 :: 46 :: b) :=
  mem_bad (splitDot a) (splitDot b) [] (by rw [splitDot_append]; rfl) (fun h => h.1 rfl)
theorem mid_star_not (a b : List UInt8) : ¬ hostP true (a ++ 46 :: 42 :: 46 :: b) :=
  mem_bad (splitDot a) (splitDot b) [42] (by rw [splitDot_append]; rfl) (star_bad fun _ e => splitDot_ne a (List.eq_nil_of_length_eq_zero e))
theorem trim46_app (p : List UInt8) {b : List UInt8} (h : nameOk b = true) : trim46 (p ++ b) = p ++ b := by
  unfold trim46
  have hb : b ≠ [] := fun e => by rw [e] at h; exact absurd h (by decide)
  rw [if_neg]
  have e : (p ++ b).getLast? = b.getLast? := by
    rw [List.getLast?_append]
    cases hl : b.getLast? with
    | none => exact absurd (List.getLast?_eq_none_iff.1 hl) hb
    | some x => rfl
  rw [e]
  exact nameOk_last46 h

theorem implHost_any (s : ByteArray) (pat : Bool) (hs : s.size ≤ 1073741824) (w : World) (b : Bool) (hb : b = true ↔ hostP pat (if pat then bytes s else trim46 (bytes s))) :
    Calls Try.prog 42 #[.string s, .bool pat] w (Ret (.bool b) w) := by
  have H := Lib.hid (fun W => validHost_any s pat hs W b hb)
  have H2 : Hid (∀ W, Calls Try.prog 58 #[.string s, .bool pat] W (Ret (.bool b) W)) := by
    intro W
    clear hb
    go_enter Try.func58, Try.ntmps58
    go_wp2_with ((with_reducible refine (H.out _).mono ?_); rintro e w1 ⟨rfl, hb1⟩)
    go_ret
    exact ⟨rfl, hb1⟩
  clear hb H
  go_enter Try.func42, Try.ntmps42
  go_wp2_with ((with_reducible refine (H2.out _).mono ?_); rintro e w1 ⟨rfl, hb1⟩)
  go_ret
  exact ⟨rfl, hb1⟩
theorem yes_iff {P : Prop} (h : P) : true = true ↔ P := ⟨fun _ => h, fun _ => rfl⟩
theorem no_iff {P : Prop} (h : ¬ P) : false = true ↔ P := ⟨fun e => (by cases e), fun e => absurd e h⟩

set_option maxHeartbeats 4000000 in
theorem fnHostname_walk (a0 : ByteArray) (w0 : a0.size ≤ maxLen) (a1 : ByteArray) (w1 : a1.size ≤ maxLen) (w : World) :
    Calls Try.prog 15 #[.string a0, .string a1] w (Ret (.bool true) w) := by
  unfold maxLen at w0 w1
  by_cases g0 : 2147483647 < a0.size
  · go_enter Try.func15, Try.ntmps15
    go_wp2
    go_ret
    exact ⟨rfl, Below.refl _ _⟩
  by_cases g1 : 2147483647 < a1.size
  · go_enter Try.func15, Try.ntmps15
    go_wp2
    go_ret
    exact ⟨rfl, Below.refl _ _⟩
  by_cases gb : 1048576 < a0.size ∨ 1048576 < a1.size
  · have HB := Lib.hid (fun W => beyond2 a0.size a1.size true (by simpa using gb) W)
    clear gb
    go_enter Try.func15, Try.ntmps15
    go_wp2_with ((go_at_call 20; refine (HB.out _).mono ?_; rintro e w' ⟨rfl, rfl⟩))
    go_ret
    exact ⟨rfl, (by repeat (first | assumption | exact Below.refl _ _ | exact Below.one _ _ | refine Below.next ?_ (by assumption)))⟩
  have HB := Lib.hid (fun W => beyond2 a0.size a1.size false (by simpa using gb) W)
  have z0 : a0.size ≤ 1048576 := by omega
  have z1 : a1.size ≤ 1048576 := by omega
  clear gb
  have hna := fun W => nameOk_any a0 (by omega) W
  have hnb := fun W => nameOk_any a1 (by omega) W
  cases na : nameOk (bytes a0)
  · rw [na] at hna
    have HNa := Lib.hid hna
    clear hna hnb na
    go_enter Try.func15, Try.ntmps15
    go_wp2_with (first | (go_at_call 20; refine (HB.out _).mono ?_; rintro e w' ⟨rfl, rfl⟩) | ((with_reducible refine (HNa.out _).mono ?_); rintro e w1 ⟨rfl, hb1⟩))
    go_ret
    exact ⟨rfl, (by repeat (first | assumption | exact Below.refl _ _ | exact Below.one _ _ | refine Below.next ?_ (by assumption)))⟩
  rw [na] at hna
  have HNa := Lib.hid hna
  have na' := Lib.hid na
  clear hna na
  cases nb : nameOk (bytes a1)
  · rw [nb] at hnb
    have HNb := Lib.hid hnb
    clear hnb nb
    go_enter Try.func15, Try.ntmps15
    go_wp2_with (first | (go_at_call 20; refine (HB.out _).mono ?_; rintro e w' ⟨rfl, rfl⟩) | ((with_reducible refine (HNa.out _).mono ?_); rintro e w1 ⟨rfl, hb1⟩) | ((with_reducible refine (HNb.out _).mono ?_); rintro e w2 ⟨rfl, hb2⟩))
    go_ret
    exact ⟨rfl, (by repeat (first | assumption | exact Below.refl _ _ | exact Below.one _ _ | refine Below.next ?_ (by assumption)))⟩
  rw [nb] at hnb
  have HNb := Lib.hid hnb
  have nb' := Lib.hid nb
  clear hnb nb
  have e3 : bytes (⟨#[42, 46]⟩ ++ a0) = 42 :: 46 :: bytes a0 := by rw [bytes_append]; rfl
  have e5 : bytes ((a0 ++ ⟨#[46, 46]⟩) ++ a1) = bytes a0 ++ 46 :: 46 :: bytes a1 := by rw [bytes_append, bytes_append, List.append_assoc]; rfl
  have e8 : bytes ((a0 ++ ⟨#[46, 42, 46]⟩) ++ a1) = bytes a0 ++ 46 :: 42 :: 46 :: bytes a1 := by rw [bytes_append, bytes_append, List.append_assoc]; rfl
  have t4 : trim46 (42 :: 46 :: bytes a0) = 42 :: 46 :: bytes a0 := trim46_app [42, 46] na'.out
  have t5 : trim46 (bytes a0 ++ 46 :: 46 :: bytes a1) = bytes a0 ++ 46 :: 46 :: bytes a1 := by
    have := trim46_app (bytes a0 ++ [46, 46]) nb'.out
    simpa using this
  have V1 := Lib.hid (fun W => implHost_any a0 false (by omega) W true (yes_iff (by rw [if_neg Bool.false_ne_true, trim46_same na'.out]; exact name_host na'.out _)))
  have V2 := Lib.hid (fun W => implHost_any a0 true (by omega) W true (yes_iff (by rw [if_pos rfl]; exact name_host na'.out _)))
  have V3 := Lib.hid (fun W => implHost_any (⟨#[42, 46]⟩ ++ a0) true (by simp [ByteArray.size_mk']; omega) W true (yes_iff (by rw [if_pos rfl, e3]; exact star_host na'.out)))
  have V4 := Lib.hid (fun W => implHost_any (⟨#[42, 46]⟩ ++ a0) false (by simp [ByteArray.size_mk']; omega) W false (no_iff (by rw [if_neg Bool.false_ne_true, e3, t4]; exact star_not _)))
  have V5 := Lib.hid (fun W => implHost_any ((a0 ++ ⟨#[46, 46]⟩) ++ a1) false (by simp [ByteArray.size_mk']; omega) W false (no_iff (by rw [if_neg Bool.false_ne_true, e5, t5]; exact mid_not _ _ _)))
  have V6 := Lib.hid (fun W => implHost_any ((a0 ++ ⟨#[46, 46]⟩) ++ a1) true (by simp [ByteArray.size_mk']; omega) W false (no_iff (by rw [if_pos rfl, e5]; exact mid_not _ _ _)))
  have V7 := Lib.hid (fun W => implHost_any ⟨#[]⟩ false (by decide) W false (no_iff (fun h => h.1 rfl)))
  have V8 := Lib.hid (fun W => implHost_any ((a0 ++ ⟨#[46, 42, 46]⟩) ++ a1) true (by simp [ByteArray.size_mk']; omega) W false (no_iff (by rw [if_pos rfl, e8]; exact mid_star_not _ _)))
  clear e3 e5 e8 t4 t5
  go_enter Try.func15, Try.ntmps15
  go_wp2_with (first | (go_at_call 20; refine (HB.out _).mono ?_; rintro e w' ⟨rfl, rfl⟩) | ((with_reducible refine (HNa.out _).mono ?_); rintro e w1 ⟨rfl, hb1⟩) | ((with_reducible refine (HNb.out _).mono ?_); rintro e w2 ⟨rfl, hb2⟩) | ((with_reducible refine (V1.out _).mono ?_); rintro e w3 ⟨rfl, hb11⟩) | ((with_reducible refine (V2.out _).mono ?_); rintro e w4 ⟨rfl, hb12⟩) | ((with_reducible refine (V3.out _).mono ?_); rintro e w5 ⟨rfl, hb13⟩) | ((with_reducible refine (V4.out _).mono ?_); rintro e w6 ⟨rfl, hb14⟩) | ((with_reducible refine (V5.out _).mono ?_); rintro e w7 ⟨rfl, hb15⟩) | ((with_reducible refine (V6.out _).mono ?_); rintro e w8 ⟨rfl, hb16⟩) | ((with_reducible refine (V7.out _).mono ?_); rintro e w9 ⟨rfl, hb17⟩) | ((with_reducible refine (V8.out _).mono ?_); rintro e w10 ⟨rfl, hb18⟩))
  go_ret
  exact ⟨rfl, (by repeat (first | assumption | exact Below.refl _ _ | exact Below.one _ _ | refine Below.next ?_ (by assumption)))⟩

set_option maxRecDepth 100000 in
set_option linter.unusedVariables false in
theorem fnHostname_lifted (os : Os) (started : os.Started) (H : Type) (enc : TypeId × Value → H) :
    ReturnsInHanded {} Try.checked os 15 .any (Rows.fnHostnameSpec.pre6 enc Try.prog Try.f15 Rows.fnHostnameRow.domain false) (Rows.fnHostnameSpec.post enc Try.prog Try.f15 false true false false) := by
  refine returnsInHanded_of_change (C := Try.checked) own started (by kernel_rfl) Try.func15
    (ChangeSpec.witness6 (enc := enc) (C := Try.checked) false ⟨#[], #[.string ByteArray.empty, .string ByteArray.empty], []⟩ 8 (by kernel_rfl) (by kernel_rfl) (by kernel_rfl) (by kernel_rfl)) ?_
  intro W base args ds gs before hval0 hW hcnd _
  have hval : ∀ (j : Nat) t v, Try.f15.params[j]? = some t → args[j]? = some v → Value.okWide Try.prog W .any base t v := hval0
  have hW' := hW
  obtain ⟨p, q, hA0, hV, rfl, hfz, hnd⟩ := hW
  have hA : DataW.TrodAll enc Try.prog W 0 (fun _ => true) true Try.f15.params.toList args.toList ds p := hA0
  rw [Try.params15] at hA hval
  obtain ⟨v0, vs0, d0, ds0, p0, q0, hargs, rfl, rfl, h0, r0⟩ := trodAll_cons hA
  obtain ⟨v1, vs1, d1, ds1, p1, q1, rfl, rfl, rfl, h1, r1⟩ := trodAll_cons r0
  obtain ⟨rfl, rfl, rfl⟩ := trodAll_nil r1
  obtain rfl : args = #[v0, v1] := by cases args; simp_all
  obtain ⟨rfl, rfl⟩ := trodVars_none hV
  obtain ⟨a0, rfl, rfl, rfl, w0⟩ := open_string Try.underlying9 (hval 0 9 v0 rfl rfl) h0
  obtain ⟨a1, rfl, rfl, rfl, w1⟩ := open_string Try.underlying9 (hval 1 9 v1 rfl rfl) h1
  clear hA0 hval0
  refine (fnHostname_walk a0 w0 a1 w1 W).mono fun e W' ⟨he, bel⟩ => ?_
  subst he
  exact ⟨_, rfl, _, _, _, [], _, [], hW', trodAll_mk1 (shut_bool Try.underlying4 _), (trodAll_cons_mk (shut_string Try.underlying9 w0) (trodAll_cons_mk (shut_string Try.underlying9 w1) trodAll_mk0)), rfl, bel.frame _, fun h => by cases h⟩
theorem fnHostname_facts : joinedFacts Try.prog 15 Try.f15 Rows.fnHostnameSpec Rows.fnHostnameRow = true :=
  facts_of rfl head_enter head_lifts head_make rfl rfl (by kernel_rfl) (by kernel_rfl) (by kernel_rfl) (by kernel_rfl) (by kernel_rfl)
theorem fnHostname_over : Rows.fnHostnameRow.holds Try.pinned (OpenSpec.ofChange Rows.fnHostnameSpec) :=
  OpenClaim.holds_of_wide 15 Try.f15 rfl rfl rfl rfl rfl rfl rfl ⟨rfl, rfl, rfl, rfl, rfl⟩ rfl rfl rfl rfl rfl (by kernel_rfl) Try.func15 fnHostname_facts
    (of_decide_eq_true (by kernel_rfl)) (by unfold Func.isWrapper; first | (rw [if_pos (by decide +kernel)]; kernel_rfl) | (rw [if_neg (by decide +kernel)]; exact ⟨rfl, rfl⟩))
    (fun os started H enc _ => fnHostname_lifted os started H enc)
theorem fnHostname_holds : Rows.FnHostnameSaid := fnHostname_over
end Go.Proofs.Ytdnbbodolpgphaa
