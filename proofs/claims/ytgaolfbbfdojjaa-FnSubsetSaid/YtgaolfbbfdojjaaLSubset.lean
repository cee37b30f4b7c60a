/-
  FnSubset holds: a network lies in another one just where its mask has no fewer ones, and its address lies there. For every input; no condition.
-/
import Derived.Test.YtgaolfbbfdojjaaN9
namespace Go.Proofs.Ytgaolfbbfdojjaa
open Go.ChangeShapes Go.WideShapes Go.ChangeAt Go.RowKit
open Go.ChangeMaps (open_string shut_string)

theorem MaskN.one {l : List UInt8} {n k : Nat} (h : MaskN l n) (g : MaskN l k) : n = k := by
  obtain ⟨h1, h2⟩ := h
  obtain ⟨g1, g2⟩ := g
  rcases Nat.lt_trichotomy n k with e | e | e
  · have a := h2 n (by omega); rw [g2 n (by omega), decide_eq_true e, decide_eq_false (by omega)] at a; cases a
  · exact e
  · have a := h2 k (by omega); rw [g2 k (by omega), decide_eq_true e, decide_eq_false (by omega)] at a; cases a
set_option maxHeartbeats 2000000 in
theorem within_any (N K : NetA) (w : World) (hN : NetR w N) (hK : NetR w K) (gN : NetG N) (gK : NetG K) (n k : Nat) (hn : MaskN N.ms n) (hk : MaskN K.ms k) (b : Bool) (hb : b = true ↔ (K.ad.length = N.ad.length ∧ n ≤ k ∧ InN N.ad N.ms K.ad)) :
    Calls Try.prog 12 #[netV N, netV K] w (Ret (.bool b) w) := by
  have ht0 := Lib.hid (TwoR.start hN hK)
  have m1 : N.ms.length ≤ 2147483647 := by have := gN.len; have := gN.a1; omega
  have m2 : K.ms.length ≤ 2147483647 := by have := gK.len; have := gK.a1; omega
  have HO1 : Hid (∀ W, TwoR w N K W → Calls Try.prog 23 #[.slice N.M N.ms.length N.d] W (Same (.tuple #[.int .i64 n, .bool true]) W)) := fun W h => (ones_any N.M _ N.d N.ms W rfl m1 h.1.2.1).mono fun e w' ⟨h1, h2⟩ => by
    rcases h2 with ⟨n', h3, h4⟩ | ⟨h3, h4⟩
    · rw [h4.one hn] at h3; exact ⟨h3, h1⟩
    · exact absurd hn (h4 n)
  have HO2 : Hid (∀ W, TwoR w N K W → Calls Try.prog 23 #[.slice K.M K.ms.length K.d] W (Same (.tuple #[.int .i64 k, .bool true]) W)) := fun W h => (ones_any K.M _ K.d K.ms W rfl m2 h.2.1.2.1).mono fun e w' ⟨h1, h2⟩ => by
    rcases h2 with ⟨n', h3, h4⟩ | ⟨h3, h4⟩
    · rw [h4.one hk] at h3; exact ⟨h3, h1⟩
    · exact absurd hk (h4 k)
  have HI : ∀ b : Bool, (b = true ↔ InN N.ad N.ms K.ad) → ∀ W, TwoR w N K W → Calls Try.prog 28 #[netV N, .slice K.A K.ad.length K.c] W (Ret (.int .i64 (yesI b)) W) := fun b hb W h => ipIn_any N K.A _ K.c K.ad W rfl gK.a1 h.1 gN.a1 m1 gN.len h.2.1.1 b hb
  have a1 := gN.a1
  have a2 := gK.a1
  unfold netV at *
  clear hn hk hN hK gN gK
  obtain ⟨⟨k0, k1⟩, k2, k3⟩ := ht0.out.cells
  by_cases hl : K.ad.length = N.ad.length
  rotate_left
  · have F : Hid (b = false) := by
      cases b
      · rfl
      · exact absurd (hb.1 rfl).1 hl
    have h1 : ((N.ad.length : Int) == (K.ad.length : Int)) = false := by rw [beq_eq_false_iff_ne]; omega
    clear HI hb hl
    go_enter Try.func12, Try.ntmps12
    go_wp2_with (first | ((with_reducible refine (HO1.out _ ht0.out).mono ?_); rintro e w1 ⟨rfl, rfl⟩) | ((with_reducible refine (HO2.out _ ht0.out).mono ?_); rintro e w1 ⟨rfl, rfl⟩))
    go_ret
    exact ⟨ret_bool F.out.symm, ht0.out.2.2.1⟩
  have h1 : ((N.ad.length : Int) == (K.ad.length : Int)) = true := by rw [beq_iff_eq]; omega
  by_cases hnk : n ≤ k
  rotate_left
  · have F : Hid (b = false) := by
      cases b
      · rfl
      · exact absurd (hb.1 rfl).2.1 hnk
    have h2 : decide (n ≤ k) = false := decide_eq_false hnk
    clear HI hb hl hnk
    go_enter Try.func12, Try.ntmps12
    go_wp2_with (first | ((with_reducible refine (HO1.out _ ht0.out).mono ?_); rintro e w1 ⟨rfl, rfl⟩) | ((with_reducible refine (HO2.out _ ht0.out).mono ?_); rintro e w1 ⟨rfl, rfl⟩))
    go_ret
    exact ⟨ret_bool F.out.symm, ht0.out.2.2.1⟩
  have h2 : decide (n ≤ k) = true := decide_eq_true hnk
  have HI1 := Lib.hid (HI b (hb.trans ⟨fun h => h.2.2, fun h => ⟨hl, hnk, h⟩⟩))
  clear HI hb hl
  cases b
  all_goals
    unfold yesI at HI1
    simp only [Bool.false_eq_true, if_false, if_true] at HI1
    go_enter Try.func12, Try.ntmps12
    go_wp2_with (first | ((with_reducible refine (HO1.out _ ht0.out).mono ?_); rintro e w1 ⟨rfl, rfl⟩) | ((with_reducible refine (HO2.out _ ht0.out).mono ?_); rintro e w1 ⟨rfl, rfl⟩) | ((with_reducible refine (HI1.out _ ht0.out).mono ?_); rintro e w1 ⟨rfl, hb1⟩))
    go_ret
    exact ⟨rfl, (ht0.out.next hb1).2.2.1⟩

theorem NetGood.g {N : NetA} (h : NetGood N.ad N.ms) (a1 : N.ad.length ≤ 2147483647) : NetG N := ⟨a1, h.2.1, h.1, h.zero⟩
theorem TwoR.held {w W : World} {N K : NetA} (h : TwoR w N K W) : W.cell? ⟨w.heap.size, 0, none⟩ = some (.slice N.A N.ad.length N.c) ∧ W.cell? ⟨w.heap.size, 1, none⟩ = some (.slice N.M N.ms.length N.d) ∧ W.cell? ⟨w.heap.size + 1, 0, none⟩ = some (.slice K.A K.ad.length K.c) ∧ W.cell? ⟨w.heap.size + 1, 1, none⟩ = some (.slice K.M K.ms.length K.d) ∧ TwoR w N K W :=
  ⟨h.cells.1.1, h.cells.1.2, h.cells.2.1, h.cells.2.2, h⟩
theorem TwoR.below3 {w W : World} {N K : NetA} (h : TwoR w N K W) : Below w.heap.size w W := h.2.2.1
set_option maxHeartbeats 4000000 in
theorem fnSubset_walk {w : World} (N0 : NetA) (w0 : NetR w N0) (N1 : NetA) (w1 : NetR w N1) :
    Calls Try.prog 4 #[netV N0, netV N1] w (Ret (.bool true) w) := by
  have m0 : N0.ad.length ≤ 9223372036854775807 ∧ N0.ms.length ≤ 9223372036854775807 := by
    have := w0.2.2; unfold maxLen at this; omega
  have m1 : N1.ad.length ≤ 9223372036854775807 ∧ N1.ms.length ≤ 9223372036854775807 := by
    have := w1.2.2; unfold maxLen at this; omega
  have ht0 := Lib.hid (TwoR.start w0 w1)
  have HF0 : ∀ b W, (b = true ↔ (N0.ad.length ≤ 2147483647 ∧ N0.ms.length ≤ 2147483647)) → Calls Try.prog 8 #[netV N0] W (Ret (.bool b) W) := fun b W hb => fits2_any N0 m0.1 m0.2 W b hb
  have HF1 : ∀ b W, (b = true ↔ (N1.ad.length ≤ 2147483647 ∧ N1.ms.length ≤ 2147483647)) → Calls Try.prog 8 #[netV N1] W (Ret (.bool b) W) := fun b W hb => fits2_any N1 m1.1 m1.2 W b hb
  by_cases g0 : N0.ad.length ≤ 2147483647 ∧ N0.ms.length ≤ 2147483647
  rotate_left
  · have H0 := Lib.hid (fun W => HF0 false W ⟨fun e => (by cases e), fun e => absurd e g0⟩)
    clear HF0 HF1 g0 m0 m1 w0 w1
    unfold netV at *
    go_enter Try.func4, Try.ntmps4
    go_wp2_with ((with_reducible refine (H0.out _).mono ?_); rintro e w1 ⟨rfl, hb1⟩)
    go_ret
    exact ⟨rfl, (ht0.out.next hb1).2.2.1⟩
  have H0 := Lib.hid (fun W => HF0 true W ⟨fun _ => g0, fun _ => rfl⟩)
  by_cases g1 : N1.ad.length ≤ 2147483647 ∧ N1.ms.length ≤ 2147483647
  rotate_left
  · have H1 := Lib.hid (fun W => HF1 false W ⟨fun e => (by cases e), fun e => absurd e g1⟩)
    clear HF0 HF1 g0 g1 m0 m1 w0 w1
    unfold netV at *
    go_enter Try.func4, Try.ntmps4
    go_wp2_with fail
    refine (H0.out _).mono ?_
    rintro e w1 ⟨rfl, hb1⟩
    have ht1 := Lib.hid (ht0.out.next hb1)
    obtain ⟨⟨k0, k1⟩, k2, k3⟩ := ht1.out.cells
    clear hb1
    go_wp2_with ((with_reducible refine (H1.out _).mono ?_); rintro e w2 ⟨rfl, hb2⟩)
    go_ret
    exact ⟨rfl, (ht1.out.next hb2).2.2.1⟩
  have H1 := Lib.hid (fun W => HF1 true W ⟨fun _ => g1, fun _ => rfl⟩)
  have HN0 : ∀ b W, NetR W N0 → (b = true ↔ NetGood N0.ad N0.ms) → Calls Try.prog 9 #[netV N0] W (Ret (.bool b) W) := fun b W h hb => netOk_any N0 W h g0.1 g0.2 b hb
  have HN1 : ∀ b W, NetR W N1 → (b = true ↔ NetGood N1.ad N1.ms) → Calls Try.prog 9 #[netV N1] W (Ret (.bool b) W) := fun b W h hb => netOk_any N1 W h g1.1 g1.2 b hb
  by_cases p0 : NetGood N0.ad N0.ms
  rotate_left
  · have H2 := Lib.hid (fun W h => HN0 false W h ⟨fun e => (by cases e), fun e => absurd e p0⟩)
    clear HF0 HF1 HN0 HN1 g0 g1 m0 m1 w0 w1 p0
    unfold netV at *
    go_enter Try.func4, Try.ntmps4
    go_wp2_with fail
    refine (H0.out _).mono ?_
    rintro e w1 ⟨rfl, hb1⟩
    have ht1 := Lib.hid (ht0.out.next hb1)
    obtain ⟨⟨k0, k1⟩, k2, k3⟩ := ht1.out.cells
    clear hb1
    go_wp2_with fail
    refine (H1.out _).mono ?_
    rintro e w2 ⟨rfl, hb2⟩
    have ht2 := Lib.hid (ht1.out.next hb2)
    clear hb2 k0 k1 k2 k3
    obtain ⟨⟨k0, k1⟩, k2, k3⟩ := ht2.out.cells
    go_wp2_with fail
    refine (H2.out _ ht2.out.1).mono ?_
    rintro e w3 ⟨rfl, hb3⟩
    go_wp2
    go_ret
    exact ⟨rfl, (ht2.out.next hb3).2.2.1⟩
  have H2 := Lib.hid (fun W h => HN0 true W h ⟨fun _ => p0, fun _ => rfl⟩)
  by_cases p1 : NetGood N1.ad N1.ms
  rotate_left
  · have H3 := Lib.hid (fun W h => HN1 false W h ⟨fun e => (by cases e), fun e => absurd e p1⟩)
    clear HF0 HF1 HN0 HN1 g0 g1 m0 m1 w0 w1 p0 p1
    unfold netV at *
    go_enter Try.func4, Try.ntmps4
    go_wp2_with fail
    refine (H0.out _).mono ?_
    rintro e w1 ⟨rfl, hb1⟩
    have ht1 := Lib.hid (ht0.out.next hb1)
    obtain ⟨⟨k0, k1⟩, k2, k3⟩ := ht1.out.cells
    clear hb1
    go_wp2_with fail
    refine (H1.out _).mono ?_
    rintro e w2 ⟨rfl, hb2⟩
    have ht2 := Lib.hid (ht1.out.next hb2)
    clear hb2 k0 k1 k2 k3
    obtain ⟨⟨k0, k1⟩, k2, k3⟩ := ht2.out.cells
    go_wp2_with fail
    refine (H2.out _ ht2.out.1).mono ?_
    rintro e w3 ⟨rfl, hb3⟩
    have ht3 := Lib.hid (ht2.out.next hb3)
    clear hb3 k0 k1 k2 k3
    obtain ⟨⟨k0, k1⟩, k2, k3⟩ := ht3.out.cells
    go_wp2_with fail
    refine (H3.out _ ht3.out.2.1).mono ?_
    rintro e w4 ⟨rfl, hb4⟩
    go_wp2
    go_ret
    exact ⟨rfl, (ht3.out.next hb4).2.2.1⟩
  have H3 := Lib.hid (fun W h => HN1 true W h ⟨fun _ => p1, fun _ => rfl⟩)
  have P0 := Lib.hid p0
  have P1 := Lib.hid p1
  clear HF0 HF1 HN0 HN1 m0 m1 w0 w1 p0 p1
  go_enter Try.func4, Try.ntmps4
  unfold netV at *
  go_wp2_with fail
  refine (H0.out _).mono ?_
  rintro e w1 ⟨rfl, hb1⟩
  have ht1 := Lib.hid (ht0.out.next hb1)
  obtain ⟨⟨k0, k1⟩, k2, k3⟩ := ht1.out.cells
  clear hb1
  go_wp2_with fail
  refine (H1.out _).mono ?_
  rintro e w2 ⟨rfl, hb2⟩
  have ht2 := Lib.hid (ht1.out.next hb2)
  clear hb2 k0 k1 k2 k3
  obtain ⟨⟨k0, k1⟩, k2, k3⟩ := ht2.out.cells
  go_wp2_with fail
  refine (H2.out _ ht2.out.1).mono ?_
  rintro e w3 ⟨rfl, hb3⟩
  have ht3 := Lib.hid (ht2.out.next hb3)
  clear hb3 k0 k1 k2 k3
  obtain ⟨⟨k0, k1⟩, k2, k3⟩ := ht3.out.cells
  go_wp2_with fail
  refine (H3.out _ ht3.out.2.1).mono ?_
  rintro e w4 ⟨rfl, hb4⟩
  have ht4 := Lib.hid (ht3.out.next hb4)
  clear hb4 k0 k1 k2 k3 ht0 ht1 ht2 ht3 H0 H1 H2 H3
  have hs0 := ht4.out.next ((Below.refl _ _).drew)
  obtain ⟨n, hn⟩ := P0.out.form
  obtain ⟨k, hk⟩ := P1.out.form
  have G0 := P0.out.g g0.1
  have G1 := P1.out.g g1.1
  obtain ⟨b, hb⟩ : ∃ b : Bool, b = true ↔ SubN (N0.ad, N0.ms) (N1.ad, N1.ms) := by
    by_cases h : SubN (N0.ad, N0.ms) (N1.ad, N1.ms)
    · exact ⟨true, by simp [h]⟩
    · exact ⟨false, by simp [h]⟩
  have HS1 : Hid (∀ W, TwoR w N0 N1 W → Calls Try.prog 11 #[netV N0, netV N1] W (Ret (.bool b) W)) := fun W h => implSubset_any N0 N1 W h.1 h.2.1 G0 G1 P1.out.2.2.2.1 b hb
  have HS2 : Hid (∀ W, TwoR w N0 N1 W → Calls Try.prog 12 #[netV N0, netV N1] W (Ret (.bool b) W)) := fun W h => within_any N0 N1 W h.1 h.2.1 G0 G1 n k hn.mask hk.mask b (hb.trans (hn.sub hk))
  have HS3 : Hid (∀ W, TwoR w N0 N1 W → Calls Try.prog 11 #[netV N0, netV N0] W (Ret (.bool true) W)) := fun W h => implSubset_any N0 N0 W h.1 h.1 G0 G0 P0.out.2.2.2.1 true ⟨fun _ => (hn.sub hn).2 ⟨rfl, Nat.le_refl _, hn.self⟩, fun _ => rfl⟩
  clear hb hn hk P0 P1 G0 G1 g0 g1
  unfold netV at *
  cases b
  all_goals
    go_wp2_with fail
    go_region_held3 (fun W' => W'.cell? ⟨w.heap.size, 0, none⟩ = some (.slice N0.A N0.ad.length N0.c) ∧ W'.cell? ⟨w.heap.size, 1, none⟩ = some (.slice N0.M N0.ms.length N0.d) ∧ W'.cell? ⟨w.heap.size + 1, 0, none⟩ = some (.slice N1.A N1.ad.length N1.c) ∧ W'.cell? ⟨w.heap.size + 1, 1, none⟩ = some (.slice N1.M N1.ms.length N1.d) ∧ TwoR w N0 N1 W')
      (first | exact TwoR.held (by assumption))
      (first | (go_split_ands; (with_reducible refine (HS1.out _ (by assumption)).mono ?_); rintro e wa ⟨rfl, hba⟩; have hsa := TwoR.next (by assumption) hba) | (go_split_ands; (with_reducible refine (HS2.out _ (by assumption)).mono ?_); rintro e wb ⟨rfl, hbb⟩; have hsb := TwoR.next (by assumption) hbb) | (go_split_ands; (with_reducible refine (HS3.out _ (by assumption)).mono ?_); rintro e wc ⟨rfl, hbc⟩; have hsc := TwoR.next (by assumption) hbc))
    all_goals
      go_split_ands
      go_wp2
      go_ret
      exact ⟨rfl, TwoR.below3 (by assumption)⟩
set_option maxRecDepth 100000 in
set_option linter.unusedVariables false in
theorem fnSubset_lifted (os : Os) (started : os.Started) (H : Type) (enc : TypeId × Value → H) :
    ReturnsInHanded {} Try.checked os 4 .any (Rows.fnSubsetSpec.pre6 enc Try.prog Try.f4 Rows.fnSubsetRow.domain false) (Rows.fnSubsetSpec.post enc Try.prog Try.f4 false true false false) := by
  refine returnsInHanded_of_change (C := Try.checked) own started (by kernel_rfl) Try.func4
    (ChangeSpec.witness6 (enc := enc) (C := Try.checked) false ⟨#[], #[.agg #[.slice none 0 0, .slice none 0 0], .agg #[.slice none 0 0, .slice none 0 0]], []⟩ 8 (by kernel_rfl) (by kernel_rfl) (by kernel_rfl) (by kernel_rfl)) ?_
  intro W base args ds gs before hval0 hW hcnd _
  have hval : ∀ (j : Nat) t v, Try.f4.params[j]? = some t → args[j]? = some v → Value.okWide Try.prog W .any base t v := hval0
  have hW' := hW
  obtain ⟨p, q, hA0, hV, rfl, hfz, hnd⟩ := hW
  have hA : DataW.TrodAll enc Try.prog W 0 (fun _ => true) true Try.f4.params.toList args.toList ds p := hA0
  rw [Try.params4] at hA hval
  obtain ⟨v0, vs0, d0, ds0, p0, q0, hargs, rfl, rfl, h0, r0⟩ := trodAll_cons hA
  obtain ⟨v1, vs1, d1, ds1, p1, q1, rfl, rfl, rfl, h1, r1⟩ := trodAll_cons r0
  obtain ⟨rfl, rfl, rfl⟩ := trodAll_nil r1
  obtain rfl : args = #[v0, v1] := by cases args; simp_all
  obtain ⟨rfl, rfl⟩ := trodVars_none hV
  have k0 := h0
  have lt0 : ∀ x ∈ p0, x.block < W.heap.size := by obtain ⟨m, hm⟩ := k0; exact DataW.trod_lt m _ _ _ hm
  obtain ⟨N0, rfl, w0⟩ := opened_net (hval 0 24 v0 rfl rfl) h0
  have k1 := h1
  have lt1 : ∀ x ∈ p1, x.block < W.heap.size := by obtain ⟨m, hm⟩ := k1; exact DataW.trod_lt m _ _ _ hm
  obtain ⟨N1, rfl, w1⟩ := opened_net (hval 1 24 v1 rfl rfl) h1
  clear hA0 hval0
  refine (fnSubset_walk (w := W) N0 w0 N1 w1).mono fun e W' ⟨he, bel⟩ => ?_
  subst he
  exact ⟨_, rfl, _, _, _, [], _, [], hW', trodAll_mk1 (shut_bool Try.underlying4 _), (trodAll_cons_mk (Below.trod laidOut (by kernel_rfl) (of_decide_eq_true (by kernel_rfl)) k0 bel lt0) (trodAll_cons_mk (Below.trod laidOut (by kernel_rfl) (of_decide_eq_true (by kernel_rfl)) k1 bel lt1) trodAll_mk0)), rfl, bel.frame _, fun h => by cases h⟩
theorem fnSubset_facts : joinedFacts Try.prog 4 Try.f4 Rows.fnSubsetSpec Rows.fnSubsetRow = true :=
  facts_of rfl head_enter head_lifts head_make rfl rfl (by kernel_rfl) (by kernel_rfl) (by kernel_rfl) (by kernel_rfl) (by kernel_rfl)
theorem fnSubset_over : Rows.fnSubsetRow.holds Try.pinned (OpenSpec.ofChange Rows.fnSubsetSpec) :=
  OpenClaim.holds_of_wide 4 Try.f4 rfl rfl rfl rfl rfl rfl rfl ⟨rfl, rfl, rfl, rfl, rfl⟩ rfl rfl rfl rfl rfl (by kernel_rfl) Try.func4 fnSubset_facts
    (of_decide_eq_true (by kernel_rfl)) (by unfold Func.isWrapper; first | (rw [if_pos (by decide +kernel)]; kernel_rfl) | (rw [if_neg (by decide +kernel)]; exact ⟨rfl, rfl⟩))
    (fun os started H enc _ => fnSubset_lifted os started H enc)
theorem fnSubset_holds : Rows.FnSubsetSaid := fnSubset_over
end Go.Proofs.Ytgaolfbbfdojjaa
