/-
  FnCheckMailOwn holds: a mailbox that is excluded is refused, whatever the case of its host; one of another local part at that host is not. For every input; no condition of ours. And its tied card.
-/
import Derived.Test.YtdinnpjplgkffaaDoorPLaws
import Derived.Test.YtdinnpjplgkffaaDoorTie
import Derived.Test.YtdinnpjplgkffaaDoorCards
import Derived.LaidMore
import Derived.Lay
import Derived.SevenTiedAt
import Derived.Stop.Joined
namespace Go.Proofs.YtdinnpjplgkffaaDoor
open Go.ChangeShapes Go.WideShapes Go.ChangeAt Go.RowKit
open Go.ChangeMaps (open_string shut_string)

set_option maxRecDepth 100000 in
set_option maxHeartbeats 8000000 in
theorem fnCheckMailOwn_walk (a : ByteArray) (ha0 : a.size ≤ maxLen) (b : ByteArray) (hb0 : b.size ≤ maxLen) (d : ByteArray) (hd0 : d.size ≤ maxLen) (w : World) :
    Calls Tryd.prog 3 #[.string a, .string b, .string d] w (Ret (.bool true) w) := by
  have HB0 : Hid (Below w.heap.size w w) := Below.refl _ _
  unfold maxLen at *
  by_cases g_a : 2147483647 < a.size
  · have x_a : decide (2147483647 < (a.size : Int)) = true := by rw [decide_eq_true_eq]; omega
    go_enter Tryd.func3, Tryd.ntmps3
    go_wp2
    go_ret
    exact ⟨rfl, HB0.out⟩
  have s_a : a.size ≤ 2147483647 := by omega
  have x_a : decide (2147483647 < (a.size : Int)) = false := by rw [decide_eq_false_iff_not]; omega
  clear g_a
  by_cases g_b : 2147483647 < b.size
  · have x_b : decide (2147483647 < (b.size : Int)) = true := by rw [decide_eq_true_eq]; omega
    go_enter Tryd.func3, Tryd.ntmps3
    go_wp2
    go_ret
    exact ⟨rfl, HB0.out⟩
  have s_b : b.size ≤ 2147483647 := by omega
  have x_b : decide (2147483647 < (b.size : Int)) = false := by rw [decide_eq_false_iff_not]; omega
  clear g_b
  by_cases g_d : 2147483647 < d.size
  · have x_d : decide (2147483647 < (d.size : Int)) = true := by rw [decide_eq_true_eq]; omega
    go_enter Tryd.func3, Tryd.ntmps3
    go_wp2
    go_ret
    exact ⟨rfl, HB0.out⟩
  have s_d : d.size ≤ 2147483647 := by omega
  have x_d : decide (2147483647 < (d.size : Int)) = false := by rw [decide_eq_false_iff_not]; omega
  clear g_d
  by_cases gb : ((1048576 < a.size) ∨ 1048576 < b.size) ∨ 1048576 < d.size
  · have HB := Lib.hid (fun W => beyond3 (a.size) (b.size) (d.size) true (by simpa using gb) W)
    clear gb
    go_enter Tryd.func3, Tryd.ntmps3
    go_wp2_with (go_at_call 10; refine (HB.out _).mono ?_; rintro e wz ⟨rfl, rfl⟩)
    go_ret
    exact ⟨rfl, HB0.out.alloc HB0.out.size _⟩
  have HB := Lib.hid (fun W => beyond3 (a.size) (b.size) (d.size) false (by simpa using gb) W)
  clear gb
  by_cases lo_a : localOk (bytes a)
  rotate_left
  · have HK : Hid (∀ W, Below w.heap.size w W → Calls Tryd.prog 11 #[.string a] W (Ret (.bool false) W)) := fun W _ => localOk_any a s_a W false ⟨fun e => (by cases e), fun e => absurd e lo_a⟩
    clear lo_a
    go_enter Tryd.func3, Tryd.ntmps3
    go_wp2_with fail
    go_at_call 10
    refine (HB.out _).mono ?_
    rintro e wz ⟨rfl, rfl⟩
    have HB1 := Lib.hid (HB0.out.alloc HB0.out.size (.cells #[.int .i64 (a.size : Int), .int .i64 (b.size : Int), .int .i64 (d.size : Int)] 3))
    clear HB0
    go_wp2_with ((with_reducible refine (HK.out _ HB1.out).mono ?_); rintro e wf ⟨rfl, hbf⟩)
    go_ret
    exact ⟨rfl, HB1.out.trans (hbf.mono HB1.out.size)⟩
  have K_a : Hid (∀ W, Below w.heap.size w W → Calls Tryd.prog 11 #[.string a] W (Ret (.bool true) W)) := fun W _ => localOk_any a s_a W true ⟨fun _ => lo_a, fun _ => rfl⟩
  have Q_a := Lib.hid lo_a
  clear lo_a
  by_cases lo_b : localOk (bytes b)
  rotate_left
  · have HK : Hid (∀ W, Below w.heap.size w W → Calls Tryd.prog 11 #[.string b] W (Ret (.bool false) W)) := fun W _ => localOk_any b s_b W false ⟨fun e => (by cases e), fun e => absurd e lo_b⟩
    clear lo_b
    go_enter Tryd.func3, Tryd.ntmps3
    go_wp2_with fail
    go_at_call 10
    refine (HB.out _).mono ?_
    rintro e wz ⟨rfl, rfl⟩
    have HB1 := Lib.hid (HB0.out.alloc HB0.out.size (.cells #[.int .i64 (a.size : Int), .int .i64 (b.size : Int), .int .i64 (d.size : Int)] 3))
    clear HB0
    go_wp2_with fail
    refine (K_a.out _ HB1.out).mono ?_
    rintro e w2 ⟨rfl, hb1⟩
    have HB2 := Lib.hid (HB1.out.trans (hb1.mono HB1.out.size))
    clear hb1 HB1
    go_wp2_with ((with_reducible refine (HK.out _ HB2.out).mono ?_); rintro e wf ⟨rfl, hbf⟩)
    go_ret
    exact ⟨rfl, HB2.out.trans (hbf.mono HB2.out.size)⟩
  have K_b : Hid (∀ W, Below w.heap.size w W → Calls Tryd.prog 11 #[.string b] W (Ret (.bool true) W)) := fun W _ => localOk_any b s_b W true ⟨fun _ => lo_b, fun _ => rfl⟩
  have Q_b := Lib.hid lo_b
  clear lo_b
  cases no_d : nameOk (bytes d)
  · have HK : Hid (∀ W, Below w.heap.size w W → Calls Tryd.prog 12 #[.string d] W (Ret (.bool false) W)) := fun W _ => by have h := nameOk_any d s_d W; rw [no_d] at h; exact h
    clear no_d
    go_enter Tryd.func3, Tryd.ntmps3
    go_wp2_with fail
    go_at_call 10
    refine (HB.out _).mono ?_
    rintro e wz ⟨rfl, rfl⟩
    have HB1 := Lib.hid (HB0.out.alloc HB0.out.size (.cells #[.int .i64 (a.size : Int), .int .i64 (b.size : Int), .int .i64 (d.size : Int)] 3))
    clear HB0
    go_wp2_with fail
    refine (K_a.out _ HB1.out).mono ?_
    rintro e w2 ⟨rfl, hb1⟩
    have HB2 := Lib.hid (HB1.out.trans (hb1.mono HB1.out.size))
    clear hb1 HB1
    go_wp2_with fail
    refine (K_b.out _ HB2.out).mono ?_
    rintro e w3 ⟨rfl, hb1⟩
    have HB3 := Lib.hid (HB2.out.trans (hb1.mono HB2.out.size))
    clear hb1 HB2
    go_wp2_with ((with_reducible refine (HK.out _ HB3.out).mono ?_); rintro e wf ⟨rfl, hbf⟩)
    go_ret
    exact ⟨rfl, HB3.out.trans (hbf.mono HB3.out.size)⟩
  have N_d : Hid (∀ W, Below w.heap.size w W → Calls Tryd.prog 12 #[.string d] W (Ret (.bool true) W)) := fun W _ => by have h := nameOk_any d s_d W; rw [no_d] at h; exact h
  have O_d := Lib.hid no_d
  clear no_d
  obtain ⟨one, hone⟩ : ∃ z, z = (a ++ ⟨#[64]⟩) ++ d := ⟨_, rfl⟩
  obtain ⟨eq, heq⟩ : ∃ q : Bool, q = decide (bytes a = bytes b) := ⟨_, rfl⟩
  have ht := text_eq a b
  rw [← heq] at ht
  have HLw : Hid (∀ W, Below w.heap.size w W → Calls Tryd.prog 14 #[.string d] W (Ret (.string (ofBytes (lowL (bytes d)))) W)) := fun W _ => specLower_any d s_d W
  have C1 : Hid (∀ g W, Rd W (some ⟨g, 0, none⟩) (strs [one]) → Calls Tryd.prog 13 #[.slice none 0 0, .slice (some ⟨g, 0, none⟩) 1 1, .string ((a ++ ⟨#[64]⟩) ++ ofBytes (lowL (bytes d)))] W (Ret (.int .i64 1) W)) := fun g W h => by
    rw [hone] at h
    exact own_check Q_a.out Q_a.out O_d.out _ (lowL (bytes d)) (by rw [nameOk_low]; exact O_d.out) (by rw [lowLL]) (own_lower Q_a.out O_d.out) (own_lower_size Q_a.out O_d.out) true (by simp) g W h
  have C2 : Hid (∀ g W, Rd W (some ⟨g, 0, none⟩) (strs [one]) → Calls Tryd.prog 13 #[.slice none 0 0, .slice (some ⟨g, 0, none⟩) 1 1, .string ((b ++ ⟨#[64]⟩) ++ d)] W (Ret (.int .i64 (codeI eq)) W)) := fun g W h => by
    rw [hone] at h
    exact own_check Q_a.out Q_b.out O_d.out _ (bytes d) O_d.out rfl (own_plain Q_b.out O_d.out) (own_plain_size Q_b.out O_d.out) eq (by rw [heq, decide_eq_true_eq]) g W h
  have C3 : Hid (∀ g W, Rd W (some ⟨g, 0, none⟩) (strs [one]) → Calls Tryd.prog 13 #[.slice none 0 0, .slice (some ⟨g, 0, none⟩) 1 1, .string (((⟨#[34]⟩ ++ a) ++ ⟨#[34, 64]⟩) ++ d)] W (Ret (.int .i64 1) W)) := fun g W h => by
    rw [hone] at h
    exact own_check Q_a.out Q_a.out O_d.out _ (bytes d) O_d.out rfl (own_quoted Q_a.out O_d.out) (own_quoted_size Q_a.out O_d.out) true (by simp) g W h
  rw [hone] at C1 C2 C3
  have y_a : a.size ≤ 100 := by have := (localOk_locL Q_a.out).2; rwa [bytes_length] at this
  have y_b : b.size ≤ 100 := by have := (localOk_locL Q_b.out).2; rwa [bytes_length] at this
  have y_d : d.size ≤ 200 := by have := nameOk_size O_d.out; rwa [bytes_length] at this
  have y_l : (ofBytes (lowL (bytes d))).size ≤ 200 := by rw [size_ofBytes, lowL_length, bytes_length]; exact y_d
  generalize ofBytes (lowL (bytes d)) = z at *
  clear hone heq
  cases eq
  all_goals
    go_enter Tryd.func3, Tryd.ntmps3
    go_wp2_with fail
    go_at_call 10
    refine (HB.out _).mono ?_
    rintro e wz ⟨rfl, rfl⟩
    have HB1 := Lib.hid (HB0.out.alloc HB0.out.size (.cells #[.int .i64 (a.size : Int), .int .i64 (b.size : Int), .int .i64 (d.size : Int)] 3))
    clear HB0
    go_wp2_with fail
    refine (K_a.out _ HB1.out).mono ?_
    rintro e w2 ⟨rfl, hb1⟩
    have HB2 := Lib.hid (HB1.out.trans (hb1.mono HB1.out.size))
    clear hb1 HB1
    go_wp2_with fail
    refine (K_b.out _ HB2.out).mono ?_
    rintro e w3 ⟨rfl, hb1⟩
    have HB3 := Lib.hid (HB2.out.trans (hb1.mono HB2.out.size))
    clear hb1 HB2
    go_wp2_with fail
    refine (N_d.out _ HB3.out).mono ?_
    rintro e w4 ⟨rfl, hb1⟩
    have HB4 := Lib.hid (HB3.out.trans (hb1.mono HB3.out.size))
    clear hb1 HB3
    go_wp2_with fail
    refine (HLw.out _ (HB4.out.trans ((Below.one _ _).mono HB4.out.size))).mono ?_
    rintro e wa ⟨rfl, hba⟩
    have HBa := Lib.hid ((HB4.out.trans ((Below.one _ _).mono HB4.out.size)).trans (hba.mono (HB4.out.trans ((Below.one _ _).mono HB4.out.size)).size))
    have HRa := Lib.hid ((rd_one _ _ _).below hba)
    clear hba
    go_wp2_with fail
    refine (C1.out _ wa HRa.out).mono ?_
    rintro e wb ⟨rfl, hbb⟩
    have HBb := Lib.hid (HBa.out.trans (hbb.mono HBa.out.size))
    have HRb := Lib.hid (HRa.out.below hbb)
    clear hbb HRa HBa C1
    go_wp2_with fail
    refine (C2.out _ wb HRb.out).mono ?_
    rintro e wc ⟨rfl, hbc⟩
    have HBc := Lib.hid (HBb.out.trans (hbc.mono HBb.out.size))
    have HRc := Lib.hid (HRb.out.below hbc)
    clear hbc HRb HBb C2
    go_wp2_with fail
    refine (C3.out _ wc HRc.out).mono ?_
    rintro e wd ⟨rfl, hbd⟩
    have HBd := Lib.hid (HBc.out.trans (hbd.mono HBc.out.size))
    clear hbd HRc HBc C3
    go_wp2
    go_ret
    exact ⟨rfl, HBd.out⟩

set_option maxRecDepth 100000 in
set_option linter.unusedVariables false in
theorem fnCheckMailOwn_lifted (os : Os) (started : os.Started) (H : Type) (enc : TypeId × Value → H) :
    ReturnsInHanded {} Tryd.checked os 3 .any (fun w args => (Rows.fnCheckMailOwnSpec.pre enc Tryd.prog Tryd.f3 Rows.fnCheckMailOwnRow.domain false w args ∧ laidMetH Tryd.prog Rows.fnCheckMailOwnRow.laid w) ∧ sizedMet enc Tryd.prog Tryd.f3 (OpenSpec.ofChange Rows.fnCheckMailOwnSpec) false w args) (Rows.fnCheckMailOwnSpec.post enc Tryd.prog Tryd.f3 false true false false) := by
  refine returnsInHanded_of_change_and (C := Tryd.checked) (X := fun w _ => laidMetH Tryd.prog Rows.fnCheckMailOwnRow.laid w) (fun _ _ _ hh h => h.of_heap hh) own started (by kernel_rfl) Tryd.func3
    (ChangeSpec.witness_shaped (enc := enc) (C := Tryd.checked) (os := os) (X := fun w _ => laidMetH Tryd.prog Rows.fnCheckMailOwnRow.laid w) false (World.laidAll Tryd.prog os Rows.fnCheckMailOwnRow.laid) #[.string ByteArray.empty, .string ByteArray.empty, .string ByteArray.empty] 8 (World.laidAll_os _ _ _)
      (World.shaped_of_ZipB (by kernel_rfl) (by kernel_rfl)) (by kernel_rfl) (by kernel_rfl) (by kernel_rfl)
      (by rw [MakeChecks.laidMetH_plain _ _ _ (by kernel_rfl)]; exact laidMet_laidAll _ (by kernel_rfl) (by kernel_rfl))) ?_
  intro W base args ds gs before hval0 hW hcnd _ hL _
  have hval : ∀ (j : Nat) t v, Tryd.f3.params[j]? = some t → args[j]? = some v → Value.okWide Tryd.prog W .any base t v := hval0
  have hW' := hW
  obtain ⟨p, q, hA0, hV, rfl, hfz, hnd⟩ := hW
  have hA : DataW.TrodAll enc Tryd.prog W 0 (fun _ => true) true Tryd.f3.params.toList args.toList ds p := hA0
  rw [Tryd.params3] at hA hval
  obtain ⟨v0, vs0, d0, ds0, p0, q0, hargs, rfl, rfl, h0, r0⟩ := trodAll_cons hA
  obtain ⟨v1, vs1, d1, ds1, p1, q1, rfl, rfl, rfl, h1, r1⟩ := trodAll_cons r0
  obtain ⟨v2, vs2, d2, ds2, p2, q2, rfl, rfl, rfl, h2, r2⟩ := trodAll_cons r1
  obtain ⟨rfl, rfl, rfl⟩ := trodAll_nil r2
  obtain rfl : args = #[v0, v1, v2] := by cases args; simp_all
  obtain ⟨rfl, rfl⟩ := trodVars_none hV
  obtain ⟨a0, rfl, rfl, rfl, w0⟩ := open_string Tryd.underlying9 (hval 0 9 v0 rfl rfl) h0
  obtain ⟨a1, rfl, rfl, rfl, w1⟩ := open_string Tryd.underlying9 (hval 1 9 v1 rfl rfl) h1
  obtain ⟨a2, rfl, rfl, rfl, w2⟩ := open_string Tryd.underlying9 (hval 2 9 v2 rfl rfl) h2
  clear hA0 hval0
  refine (fnCheckMailOwn_walk a0 w0 a1 w1 a2 w2 W).mono fun e W' ⟨he, bel⟩ => ?_
  subst he
  exact ⟨_, rfl, _, _, _, [], _, [], hW', trodAll_mk1 (shut_bool Tryd.underlying4 _), (trodAll_cons_mk (shut_string Tryd.underlying9 w0) (trodAll_cons_mk (shut_string Tryd.underlying9 w1) (trodAll_cons_mk (shut_string Tryd.underlying9 w2) trodAll_mk0))), rfl, bel.frame _, fun h => by cases h⟩
theorem fnCheckMailOwn_facts : joinedFacts Tryd.prog 3 Tryd.f3 Rows.fnCheckMailOwnSpec Rows.fnCheckMailOwnRow = true :=
  facts_of rfl head_enter head_lifts head_make rfl rfl (by kernel_rfl) (by kernel_rfl) (by kernel_rfl) (by kernel_rfl) (by kernel_rfl)
set_option maxRecDepth 100000 in
theorem fnCheckMailOwn_row : Rows.FnCheckMailOwnSaid :=
  OpenClaim.holds_of_wide 3 Tryd.f3 rfl rfl rfl rfl rfl rfl rfl ⟨rfl, rfl, rfl, rfl, rfl⟩ rfl rfl rfl rfl rfl (by kernel_rfl) Tryd.func3 fnCheckMailOwn_facts
    (of_decide_eq_true (by kernel_rfl)) (by unfold Func.isWrapper; first | (rw [if_pos (by decide +kernel)]; kernel_rfl) | (rw [if_neg (by decide +kernel)]; exact ⟨rfl, rfl⟩))
    (fun os started H enc _ => fnCheckMailOwn_lifted os started H enc)
set_option maxRecDepth 100000 in
theorem fnCheckMailOwn_holds : Rows.FnCheckMailOwnCardSaid :=
  Claim7.holds_tied_plain_at .later [] [.data, .pinned, .pinned] true (true, "47dc8390ac227de7a865ba6f089e7475486b30b73b4649b8ec8f28900be40170") false fnCheckMailOwn_row (fun _ h => by cases h) (by kernel_rfl) (fun _ h => by cases h) fnCheckMailOwn_row_tie rfl ⟨rfl, rfl⟩ (by kernel_rfl) rfl
    (fun f fn hf hfn => by
      obtain rfl : f = 3 := Option.some.inj ((show Tryd.prog.funcNamed "loop.example/pub-g03129/laws.FnCheckMailOwn" = some 3 by kernel_rfl).symm.trans hf) |>.symm
      obtain rfl : fn = Tryd.f3 := (Option.some.inj (Tryd.func3.symm.trans hfn)).symm
      exact ⟨by kernel_rfl, fun j t ht => by
        rw [Tryd.params3] at ht
        have hm : t ∈ [9, 9, 9] := by simpa using Array.mem_of_getElem? ht
        have hall : ([9, 9, 9].all fun u => !Tryd.prog.wantsStandIn u) = true := by kernel_rfl
        exact (show Tryd.prog.wantsStandIn t = false by simpa using List.all_eq_true.1 hall t hm)⟩)
    (by kernel_rfl)
end Go.Proofs.YtdinnpjplgkffaaDoor
