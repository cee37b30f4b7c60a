/-
  FnLabels holds: a domain of labels of visible bytes has these, the last one first. For every input; no condition.
-/
import Derived.Test.YtdnbbodolpgphaaW19
import Derived.Test.YtdnbbodolpgphaaLLabelsNot
namespace Go.Proofs.Ytdnbbodolpgphaa
open Go.ChangeShapes Go.WideShapes Go.ChangeAt Go.RowKit
open Go.ChangeMaps (open_string shut_string)

theorem labels_seen {l : List UInt8} {bs : List ByteArray} (h : labelsB l = bs) (hv : ∀ c ∈ l, visB c.toNat = true) (h0 : 0 < bs.length) (hs : ∀ j (h : j < bs.length), (bs[j]).size ≠ 0) : okL l = true ∧ revB l = bs.reverse := by
  have hne : l.isEmpty = false := by
    cases l with
    | nil =>
      exfalso
      subst h
      exact hs 0 h0 rfl
    | cons c r => rfl
  have hall : (labelsB l).all (fun b => !(bytes b).isEmpty) = true := by
    rw [h, List.all_eq_true]
    intro x hx
    obtain ⟨j, hj, rfl⟩ := List.getElem_of_mem hx
    have := hs j hj
    cases hb : bytes bs[j] with
    | nil => exact absurd (by rw [← bytes_length, hb]; rfl) this
    | cons _ _ => rfl
  refine ⟨?_, ?_⟩
  · unfold okL validN
    rw [labelsB_all, hall, hne]
    simpa using hv
  · unfold revB
    rw [hne, if_neg Bool.false_ne_true, h]

set_option maxHeartbeats 1000000 in
theorem fnLabels_walk (A : Option Addr) (n c : Nat) (bs : List ByteArray) {w : World} (h : n = bs.length ∧ n ≤ maxLen ∧ (∀ x ∈ bs, x.size ≤ maxLen) ∧ Rd w A (strs bs)) :
    Calls Try.prog 14 #[.slice A n c] w (Ret (.bool true) w) := by
  obtain ⟨hn, hl, hm, hr⟩ := h
  by_cases hf : fitsP bs
  case neg =>
    have HF := Lib.hid (fits_any A n c bs w false ⟨fun h => (by cases h), fun h => absurd h hf⟩ hn hl hm hr)
    clear hf hm hr hn
    go_enter Try.func14, Try.ntmps14
    go_wp2_with fail
    refine HF.out.mono ?_
    rintro e w1 ⟨rfl, hb1⟩
    go_wp2
    go_ret
    exact ⟨rfl, hb1⟩
  have HF := Lib.hid (fits_any A n c bs w true ⟨fun _ => hf, fun _ => rfl⟩ hn hl hm hr)
  have hle := hf.1
  have HR := Lib.hid hr
  have HFit := Lib.hid hf
  clear hf hm hr
  subst hn
  go_enter Try.func14, Try.ntmps14
  go_wp2_with fail
  refine HF.out.mono ?_
  rintro e w1 ⟨rfl, hb1⟩
  clear HF
  have HR1 := Lib.hid (HR.out.below hb1)
  have HS := Lib.hid (sum_any A bs.length c bs w1 HFit.out rfl HR1.out)
  clear HR
  go_wp2_with fail
  refine HS.out.mono ?_
  rintro e w2 ⟨rfl, hb2⟩
  clear HS
  have HR2 := Lib.hid (HR1.out.below hb2)
  clear HR1
  by_cases gb : 1048576 < sumB bs
  · have HB := Lib.hid (fun W => beyond1 (sumB bs) true (by simpa using gb) W)
    clear gb
    go_wp2_with ((go_at_call 20; refine (HB.out _).mono ?_; rintro e w' ⟨rfl, rfl⟩))
    go_ret
    exact ⟨rfl, Below.next (Below.next hb1 hb2) (Below.one _ _)⟩
  have HB := Lib.hid (fun W => beyond1 (sumB bs) false (by simpa using gb) W)
  clear gb
  by_cases hz : bs.length = 0
  · have hz' : ((bs.length : Int) == 0) = true := by simp [hz]
    clear hz
    go_wp2_with ((go_at_call 20; refine (HB.out _).mono ?_; rintro e w' ⟨rfl, rfl⟩))
    go_ret
    exact ⟨rfl, Below.next (Below.next hb1 hb2) (Below.one _ _)⟩
  have hz' : ((bs.length : Int) == 0) = false := beq_eq_false_iff_ne.2 (by omega)
  have hpos : 0 < bs.length := by omega
  clear hz
  by_cases hh : 100 < bs.length
  · go_wp2_with ((go_at_call 20; refine (HB.out _).mono ?_; rintro e w' ⟨rfl, rfl⟩))
    go_ret
    exact ⟨rfl, Below.next (Below.next hb1 hb2) (Below.one _ _)⟩
  have h100 : bs.length ≤ 100 := by omega
  clear hh
  have HW3 := Lib.hid (Below.next (Below.next hb1 hb2) (Below.one w2 (.cells #[.int .i64 (sumB bs : Int)] 3)))
  have HR3 := Lib.hid (HR2.out.below (Below.one w2 (.cells #[.int .i64 (sumB bs : Int)] 3)))
  clear HR2
  go_wp2_with ((go_at_call 20; refine (HB.out _).mono ?_; rintro e w' ⟨rfl, rfl⟩))
  go_loopg [25] bs.length (fun kx i wr => ∃ k : Nat, k ≤ bs.length ∧ bs.length - k ≤ kx ∧ i = .int .i64 k ∧ Aside (∀ j (h : j < bs.length), j < k → seenP (bs[j]) ∧ (bs[j]).size ≤ 60) ∧ Aside (Rd wr A (strs bs)) ∧ Aside (Below w.heap.size w wr))
  case atStart => exact ⟨0, by omega, by omega, rfl, fun j h h' => by omega, HR3.out, HW3.out⟩
  case round =>
    clear HR3 HW3
    obtain ⟨k, hk, hg, rfl, Q, HR, HW⟩ := hrel
    by_cases hlt : k < bs.length
    · obtain ⟨ad1, rfl, h1l, hc1⟩ := HR.out k _ (strs_get hlt)
      have hx := HFit.out.2 k hlt
      have Q2 : Aside (seenP (bs[k]) ∧ (bs[k]).size ≤ 60 → ∀ j (h : j < bs.length), j < k + 1 → seenP (bs[j]) ∧ (bs[j]).size ≤ 60) := fun hx j h hj => by
        by_cases e : j < k
        · exact Q.out j h e
        · have : j = k := by omega
          subst this; exact hx
      clear Q HFit
      generalize bs[k] = x at *
      by_cases hs : seenP x
      case neg =>
        have HV := Lib.hid (fun W => visible_any x hx W false ⟨fun h => (by cases h), fun h => absurd h hs⟩)
        clear hs Q2
        go_wp2_with ((with_reducible refine (HV.out _).mono ?_); rintro e w4 ⟨rfl, hb4⟩)
        go_ret
        exact ⟨rfl, Below.next HW.out hb4⟩
      have HV := Lib.hid (fun W => visible_any x hx W true ⟨fun _ => hs, fun _ => rfl⟩)
      by_cases h60 : 60 < x.size
      · clear hs Q2
        go_wp2_with ((with_reducible refine (HV.out _).mono ?_); rintro e w4 ⟨rfl, hb4⟩)
        go_ret
        exact ⟨rfl, Below.next HW.out hb4⟩
      · have h60' : x.size ≤ 60 := by omega
        have Q3 := Lib.hid (Q2.out ⟨hs, h60'⟩)
        clear hs Q2 h60
        go_wp2_with ((with_reducible refine (HV.out _).mono ?_); rintro e w4 ⟨rfl, hb4⟩)
        go_roundg (bs.length - (k + 1))
        case measure => omega
        case rel => exact ⟨k + 1, by omega, by omega, by go_num, Q3.out, HR.out.below hb4, Below.next HW.out hb4⟩
    · have hall : ∀ j (h : j < bs.length), seenP (bs[j]) ∧ (bs[j]).size ≤ 60 := fun j h => Q.out j h (by omega)
      have HAll := Lib.hid hall
      obtain ⟨wo, rfl⟩ : ∃ wo : World, wo = wr := ⟨_, rfl⟩
      have HJ := Lib.hid (joined_any A bs.length c bs wo hpos h100 hall rfl HR.out)
      clear hall Q HFit
      go_wp2_with fail
      refine HJ.out.mono ?_
      rintro e w4 ⟨d, rfl, hd, hd1, hd2, rfl⟩
      have hdl := labels_seen hd1 hd2 hpos (fun j h => (HAll.out j h).1.1)
      have HL := Lib.hid (fun W => implLabels_any d (by omega) W)
      have HOK := Lib.hid hdl.1
      have hlr : bs.reverse.length ≤ 2147483648 := by rw [List.length_reverse]; omega
      have hrv := hdl.2
      have ht := fun W h => turned_any A bs.length c bs W h100 rfl h
      generalize bs.reverse = rs at hrv ht hlr
      have HRV := Lib.hid hrv
      have HT0 := Lib.hid ht
      clear hrv ht
      clear hdl hd1 hd2 HJ HAll
      go_wp2_with fail
      refine (HL.out _).mono ?_
      rintro e w5 ⟨v5, rfl, hown5, hb5⟩
      have hown5 := hown5 HOK.out
      rw [HRV.out] at hown5
      rw [HOK.out]
      obtain ⟨A5, c5, rfl, -, -, hr5, -⟩ := Rd.own hown5
      have HR5 := Lib.hid hr5
      have HRb := Lib.hid (HR.out.below hb5)
      clear hown5 hr5 HL HOK HRV
      by_cases h1000 : 1000 < d.size
      · go_wp2
        go_ret
        exact ⟨rfl, Below.next HW.out hb5⟩
      have h1000' : d.size ≤ 1000 := by omega
      clear h1000
      have HT := Lib.hid (HT0.out w5 HRb.out)
      clear HT0
      go_wp2_with fail
      refine HT.out.mono ?_
      rintro e w6 ⟨v6, rfl, hown6, hb6⟩
      obtain ⟨A6, c6, rfl, -, -, hr6, -⟩ := Rd.own hown6
      have HE := Lib.hid (equal_any A5 A6 _ _ c5 c6 rs rs w6 rfl rfl hlr hlr (HR5.out.below hb6) hr6)
      have he : decide (rs = rs) = true := by simp
      clear hown6 hr6 HT HR5 HRb
      go_wp2_with fail
      refine HE.out.mono ?_
      rintro e w7 ⟨rfl, hb7⟩
      rw [he]
      clear HE
      go_wp2
      go_ret
      exact ⟨rfl, Below.next (Below.next (Below.next HW.out hb5) hb6) hb7⟩

set_option maxRecDepth 100000 in
set_option linter.unusedVariables false in
theorem fnLabels_lifted (os : Os) (started : os.Started) (H : Type) (enc : TypeId × Value → H) :
    ReturnsInHanded {} Try.checked os 14 .any (Rows.fnLabelsSpec.pre6 enc Try.prog Try.f14 Rows.fnLabelsRow.domain false) (Rows.fnLabelsSpec.post enc Try.prog Try.f14 false true false false) := by
  refine returnsInHanded_of_change (C := Try.checked) own started (by kernel_rfl) Try.func14
    (ChangeSpec.witness6 (enc := enc) (C := Try.checked) false ⟨#[], #[.slice none 0 0], []⟩ 8 (by kernel_rfl) (by kernel_rfl) (by kernel_rfl) (by kernel_rfl)) ?_
  intro W base args ds gs before hval0 hW hcnd _
  have hval : ∀ (j : Nat) t v, Try.f14.params[j]? = some t → args[j]? = some v → Value.okWide Try.prog W .any base t v := hval0
  have hW' := hW
  obtain ⟨p, q, hA0, hV, rfl, hfz, hnd⟩ := hW
  have hA : DataW.TrodAll enc Try.prog W 0 (fun _ => true) true Try.f14.params.toList args.toList ds p := hA0
  rw [Try.params14] at hA hval
  obtain ⟨v0, vs0, d0, ds0, p0, q0, hargs, rfl, rfl, h0, r0⟩ := trodAll_cons hA
  obtain ⟨rfl, rfl, rfl⟩ := trodAll_nil r0
  obtain rfl : args = #[v0] := by cases args; simp_all
  obtain ⟨rfl, rfl⟩ := trodVars_none hV
  have k0 := h0
  have lt0 : ∀ x ∈ p0, x.block < W.heap.size := by obtain ⟨m, hm⟩ := k0; exact DataW.trod_lt m _ _ _ hm
  obtain ⟨A0, n0, c0, bs0, rfl, w0⟩ := opened_strings (hval 0 24 v0 rfl rfl) h0
  clear hA0 hval0
  refine (fnLabels_walk (w := W) A0 n0 c0 bs0 w0).mono fun e W' ⟨he, bel⟩ => ?_
  subst he
  exact ⟨_, rfl, _, _, _, [], _, [], hW', trodAll_mk1 (shut_bool Try.underlying4 _), (trodAll_cons_mk (Below.trod laidOut (by kernel_rfl) (of_decide_eq_true (by kernel_rfl)) k0 bel lt0) trodAll_mk0), rfl, bel.frame _, fun h => by cases h⟩
theorem fnLabels_facts : joinedFacts Try.prog 14 Try.f14 Rows.fnLabelsSpec Rows.fnLabelsRow = true :=
  facts_of rfl head_enter head_lifts head_make rfl rfl (by kernel_rfl) (by kernel_rfl) (by kernel_rfl) (by kernel_rfl) (by kernel_rfl)
theorem fnLabels_over : Rows.fnLabelsRow.holds Try.pinned (OpenSpec.ofChange Rows.fnLabelsSpec) :=
  OpenClaim.holds_of_wide 14 Try.f14 rfl rfl rfl rfl rfl rfl rfl ⟨rfl, rfl, rfl, rfl, rfl⟩ rfl rfl rfl rfl rfl (by kernel_rfl) Try.func14 fnLabels_facts
    (of_decide_eq_true (by kernel_rfl)) (by unfold Func.isWrapper; first | (rw [if_pos (by decide +kernel)]; kernel_rfl) | (rw [if_neg (by decide +kernel)]; exact ⟨rfl, rfl⟩))
    (fun os started H enc _ => fnLabels_lifted os started H enc)
theorem fnLabels_holds : Rows.FnLabelsSaid := fnLabels_over
end Go.Proofs.Ytdnbbodolpgphaa
