/-
  FnCompare holds: comparing tells which of two names comes first: turned round where they are exchanged, 0 where they are the same, and in one row of three. For every input; no condition.
-/
import Derived.Test.YtdnbbodolpgphaaLSuffixDeeper
import Derived.Test.YtdnbbodolpgphaaPCompare
namespace Go.Proofs.Ytdnbbodolpgphaa
open Go.ChangeShapes Go.WideShapes Go.ChangeAt Go.RowKit
open Go.ChangeMaps (open_string shut_string)

set_option maxHeartbeats 4000000 in
theorem fnCompare_walk (a0 : ByteArray) (w0 : a0.size ≤ maxLen) (a1 : ByteArray) (w1 : a1.size ≤ maxLen) (a2 : ByteArray) (w2 : a2.size ≤ maxLen) (w : World) :
    Calls Try.prog 8 #[.string a0, .string a1, .string a2] w (Ret (.bool true) w) := by
  unfold maxLen at w0 w1 w2
  by_cases g0 : 2147483647 < a0.size
  · go_enter Try.func8, Try.ntmps8
    go_wp2
    go_ret
    exact ⟨rfl, Below.refl _ _⟩
  by_cases g1 : 2147483647 < a1.size
  · go_enter Try.func8, Try.ntmps8
    go_wp2
    go_ret
    exact ⟨rfl, Below.refl _ _⟩
  by_cases g2 : 2147483647 < a2.size
  · go_enter Try.func8, Try.ntmps8
    go_wp2
    go_ret
    exact ⟨rfl, Below.refl _ _⟩
  have d0 : decide (2147483647 < a0.size) = false := by simpa using g0
  have d1 : decide (2147483647 < a1.size) = false := by simpa using g1
  have d2 : decide (2147483647 < a2.size) = false := by simpa using g2
  by_cases gb : 1048576 < a0.size ∨ 1048576 < a1.size ∨ 1048576 < a2.size
  · have HB := Lib.hid (fun W => beyond3 a0.size a1.size a2.size true (by simpa [or_assoc] using gb) W)
    clear gb
    go_enter Try.func8, Try.ntmps8
    go_wp2_with ((go_at_call 20; refine (HB.out _).mono ?_; rintro e w' ⟨rfl, rfl⟩))
    go_ret
    exact ⟨rfl, (by repeat (first | assumption | exact Below.refl _ _ | exact Below.one _ _ | refine Below.next ?_ (by assumption)))⟩
  have HB := Lib.hid (fun W => beyond3 a0.size a1.size a2.size false (by simpa [and_assoc] using gb) W)
  have z0 : a0.size ≤ 1048576 := by omega
  have z1 : a1.size ≤ 1048576 := by omega
  have z2 : a2.size ≤ 1048576 := by omega
  clear gb
  have hsz := Lib.hid (three_get a0 a1 a2 1048576 z0 z1 z2)
  have HR0 : Aside (Rd ((w.alloc (.cells #[.int .i64 (a0.size : Int), .int .i64 (a1.size : Int), .int .i64 (a2.size : Int)] 3)).alloc (.cells #[.string a0, .string a1, .string a2] 9)) (some ⟨w.heap.size + 1, 0, none⟩) (strs [a0, a1, a2])) := by
    have := Rd.new (w.alloc (.cells #[.int .i64 (a0.size : Int), .int .i64 (a1.size : Int), .int .i64 (a2.size : Int)] 3)) #[.string a0, .string a1, .string a2] 9
    show Rd _ _ _
    simpa [strs] using this
  have hb0 : Aside (Below w.heap.size w ((w.alloc (.cells #[.int .i64 (a0.size : Int), .int .i64 (a1.size : Int), .int .i64 (a2.size : Int)] 3)).alloc (.cells #[.string a0, .string a1, .string a2] 9))) := (Below.one _ _).alloc (by simp) _
  go_enter Try.func8, Try.ntmps8
  go_wp2_with ((go_at_call 20; refine (HB.out _).mono ?_; rintro e w' ⟨rfl, rfl⟩))
  go_loopg [38] 3 (fun kx i wr => ∃ k : Nat, k ≤ 3 ∧ 3 - k ≤ kx ∧ i = .int .i64 k ∧ Aside (∀ j (h : j < [a0, a1, a2].length), j < k → GoodName ([a0, a1, a2][j])) ∧ Aside (Rd wr (some ⟨w.heap.size + 1, 0, none⟩) (strs [a0, a1, a2])) ∧ Aside (Below w.heap.size w wr))
  case atStart => exact ⟨0, by omega, by omega, rfl, fun j h h' => by omega, HR0, hb0⟩
  case round =>
    clear HR0 hb0
    obtain ⟨k, hk, hg, rfl, Q, HR, hbw⟩ := hrel
    by_cases hlt : k < 3
    · obtain ⟨ad, had, hadl, hc⟩ := HR.out k _ (strs_get (bs := [a0, a1, a2]) hlt)
      obtain rfl := Option.some.inj had
      have hadd : (⟨w.heap.size + 1, 0, none⟩ : Addr).add k = ⟨w.heap.size + 1, k, none⟩ := by simp [Addr.add]; intro h; exact h.symm
      rw [hadd] at hc
      have hxs := hsz.out k hlt
      have Qx : Aside (GoodName ([a0, a1, a2][k]'hlt) → ∀ j (h : j < [a0, a1, a2].length), j < k + 1 → GoodName ([a0, a1, a2][j])) := fun hx j h hj => by
        by_cases e : j < k
        · exact Q.out j h e
        · have : j = k := by omega
          subst this; exact hx
      clear Q had hadl hadd
      generalize [a0, a1, a2][k]'hlt = x at hc hxs Qx
      have hn := fun W => nameOk_any x (by omega) W
      cases nx : nameOk (bytes x)
      · rw [nx] at hn
        have HN := Lib.hid hn
        clear hn nx
        go_wp2_with ((with_reducible refine (HN.out _).mono ?_); rintro e w1 ⟨rfl, hb1⟩)
        go_ret
        exact ⟨rfl, Below.next hbw.out hb1⟩
      · rw [nx] at hn
        have HN := Lib.hid hn
        have nx' := Lib.hid nx
        clear hn nx
        by_cases lx : lowL (bytes x) = bytes x
        · have HL := Lib.hid (fun W => lower_same x (by omega) lx W)
          have Q2 := Lib.hid (Qx.out ⟨nx'.out, lx⟩)
          clear lx Qx
          go_wp2_with (first | ((with_reducible refine (HN.out _).mono ?_); rintro e w1 ⟨rfl, hb1⟩) | ((with_reducible refine (HL.out _).mono ?_); rintro e w2 ⟨rfl, hb2⟩))
          go_roundg (3 - (k + 1))
          case measure => omega
          case rel => exact ⟨k + 1, by omega, by omega, by go_num, Q2.out, (HR.out.below hb1).below hb2, Below.next (Below.next hbw.out hb1) hb2⟩
        · obtain ⟨y, hy, hla⟩ := lower_other x (by omega) lx
          have HL := Lib.hid hla
          clear hla lx Qx
          go_wp2_with (first | ((with_reducible refine (HN.out _).mono ?_); rintro e w1 ⟨rfl, hb1⟩) | ((with_reducible refine (HL.out _).mono ?_); rintro e w2 ⟨rfl, hb2⟩))
          go_ret
          exact ⟨rfl, Below.next (Below.next hbw.out hb1) hb2⟩
    · have n0 : GoodName a0 := Q.out 0 (by simp) (by omega)
      have n1 : GoodName a1 := Q.out 1 (by simp) (by omega)
      have hz := dnsCmp_zero n0.1 n1.1 n0.2 n1.2
      have hr := cmpN_range (key (bytes a0)) (key (bytes a1))
      have ht := cmpN_trans (key (bytes a0)) (key (bytes a1)) (key (bytes a2))
      have hn : dnsCmp (bytes a1) (bytes a0) = - dnsCmp (bytes a0) (bytes a1) := cmpN_neg _ _
      have hs : dnsCmp (bytes a0) (bytes a0) = 0 := (cmpN_zero _ _).2 rfl
      have hab : dnsCmp (bytes ⟨#[97, 46, 99, 111, 109]⟩) (bytes ⟨#[98, 46, 99, 111, 109]⟩) = -1 := by decide +kernel
      have c1 := fun W => implCompare_any a0 a1 (by omega) (by omega) W
      have c2 := fun W => implCompare_any a1 a2 (by omega) (by omega) W
      have c3 := fun W => implCompare_any a0 a2 (by omega) (by omega) W
      have c4 := fun W => implCompare_any a1 a0 (by omega) (by omega) W
      have c5 := fun W => implCompare_any a0 a0 (by omega) (by omega) W
      have c6 := fun W => implCompare_any ⟨#[97, 46, 99, 111, 109]⟩ ⟨#[98, 46, 99, 111, 109]⟩ (by decide) (by decide) W
      rw [hn] at c4
      rw [hs] at c5
      rw [hab] at c6
      change dnsCmp (bytes a0) (bytes a1) = -1 ∨ dnsCmp (bytes a0) (bytes a1) = 0 ∨ dnsCmp (bytes a0) (bytes a1) = 1 at hr
      change dnsCmp (bytes a0) (bytes a1) ≤ 0 → dnsCmp (bytes a1) (bytes a2) ≤ 0 → dnsCmp (bytes a0) (bytes a2) ≤ 0 at ht
      have E2 : (a0.toList == a1.toList) = decide (dnsCmp (bytes a0) (bytes a1) = 0) := by
        rw [ByteArray.toList_eq, ByteArray.toList_eq, Bool.eq_iff_iff, decide_eq_true_iff, hz, beq_iff_eq]
        exact Iff.rfl
      have C3 := Lib.hid c3
      have C6 := Lib.hid c6
      have C5 := Lib.hid c5
      clear hz hn hs hab n0 n1 Q HR c3 c6 c5
      generalize dnsCmp (bytes a0) (bytes a1) = X at *
      generalize dnsCmp (bytes a1) (bytes a2) = Y at *
      generalize dnsCmp (bytes a0) (bytes a2) = Z at *
      have C1 := Lib.hid c1
      have C2 := Lib.hid c2
      have C4 := Lib.hid c4
      clear c1 c2 c4
      have hc : X = 1 ∨ (X = 0 ∧ 0 < Y) ∨ (X = 0 ∧ Y ≤ 0 ∧ Z ≤ 0) ∨ (X = -1 ∧ 0 < Y) ∨ (X = -1 ∧ Y ≤ 0 ∧ Z ≤ 0) := by
        rcases hr with rfl | rfl | rfl
        · by_cases hy : Y ≤ 0
          · have := ht (by omega) hy; omega
          · omega
        · by_cases hy : Y ≤ 0
          · have := ht (by omega) hy; omega
          · omega
        · omega
      clear hr ht
      rcases hc with rfl | ⟨rfl, hy⟩ | ⟨rfl, hy, hz⟩ | ⟨rfl, hy⟩ | ⟨rfl, hy, hz⟩
      all_goals
        simp only [Int.reduceEq, decide_true, decide_false] at E2
        go_wp2_with (first | ((with_reducible refine (C1.out _).mono ?_); rintro e w1 ⟨rfl, hb1⟩) | ((with_reducible refine (C2.out _).mono ?_); rintro e w2 ⟨rfl, hb2⟩) | ((with_reducible refine (C3.out _).mono ?_); rintro e w3 ⟨rfl, hb3⟩) | ((with_reducible refine (C4.out _).mono ?_); rintro e w4 ⟨rfl, hb4⟩) | ((with_reducible refine (C5.out _).mono ?_); rintro e w5 ⟨rfl, hb5⟩) | ((with_reducible refine (C6.out _).mono ?_); rintro e w6 ⟨rfl, hb6⟩))
        go_ret
        exact ⟨ret_bool (by simp_all), Below.next (Below.next (Below.next (Below.next (Below.next (Below.next hbw.out hb1) hb2) hb3) hb4) hb5) hb6⟩

set_option maxRecDepth 100000 in
set_option linter.unusedVariables false in
theorem fnCompare_lifted (os : Os) (started : os.Started) (H : Type) (enc : TypeId × Value → H) :
    ReturnsInHanded {} Try.checked os 8 .any (Rows.fnCompareSpec.pre6 enc Try.prog Try.f8 Rows.fnCompareRow.domain false) (Rows.fnCompareSpec.post enc Try.prog Try.f8 false true false false) := by
  refine returnsInHanded_of_change (C := Try.checked) own started (by kernel_rfl) Try.func8
    (ChangeSpec.witness6 (enc := enc) (C := Try.checked) false ⟨#[], #[.string ByteArray.empty, .string ByteArray.empty, .string ByteArray.empty], []⟩ 8 (by kernel_rfl) (by kernel_rfl) (by kernel_rfl) (by kernel_rfl)) ?_
  intro W base args ds gs before hval0 hW hcnd _
  have hval : ∀ (j : Nat) t v, Try.f8.params[j]? = some t → args[j]? = some v → Value.okWide Try.prog W .any base t v := hval0
  have hW' := hW
  obtain ⟨p, q, hA0, hV, rfl, hfz, hnd⟩ := hW
  have hA : DataW.TrodAll enc Try.prog W 0 (fun _ => true) true Try.f8.params.toList args.toList ds p := hA0
  rw [Try.params8] at hA hval
  obtain ⟨v0, vs0, d0, ds0, p0, q0, hargs, rfl, rfl, h0, r0⟩ := trodAll_cons hA
  obtain ⟨v1, vs1, d1, ds1, p1, q1, rfl, rfl, rfl, h1, r1⟩ := trodAll_cons r0
  obtain ⟨v2, vs2, d2, ds2, p2, q2, rfl, rfl, rfl, h2, r2⟩ := trodAll_cons r1
  obtain ⟨rfl, rfl, rfl⟩ := trodAll_nil r2
  obtain rfl : args = #[v0, v1, v2] := by cases args; simp_all
  obtain ⟨rfl, rfl⟩ := trodVars_none hV
  obtain ⟨a0, rfl, rfl, rfl, w0⟩ := open_string Try.underlying9 (hval 0 9 v0 rfl rfl) h0
  obtain ⟨a1, rfl, rfl, rfl, w1⟩ := open_string Try.underlying9 (hval 1 9 v1 rfl rfl) h1
  obtain ⟨a2, rfl, rfl, rfl, w2⟩ := open_string Try.underlying9 (hval 2 9 v2 rfl rfl) h2
  clear hA0 hval0
  refine (fnCompare_walk a0 w0 a1 w1 a2 w2 W).mono fun e W' ⟨he, bel⟩ => ?_
  subst he
  exact ⟨_, rfl, _, _, _, [], _, [], hW', trodAll_mk1 (shut_bool Try.underlying4 _), (trodAll_cons_mk (shut_string Try.underlying9 w0) (trodAll_cons_mk (shut_string Try.underlying9 w1) (trodAll_cons_mk (shut_string Try.underlying9 w2) trodAll_mk0))), rfl, bel.frame _, fun h => by cases h⟩
theorem fnCompare_facts : joinedFacts Try.prog 8 Try.f8 Rows.fnCompareSpec Rows.fnCompareRow = true :=
  facts_of rfl head_enter head_lifts head_make rfl rfl (by kernel_rfl) (by kernel_rfl) (by kernel_rfl) (by kernel_rfl) (by kernel_rfl)
theorem fnCompare_over : Rows.fnCompareRow.holds Try.pinned (OpenSpec.ofChange Rows.fnCompareSpec) :=
  OpenClaim.holds_of_wide 8 Try.f8 rfl rfl rfl rfl rfl rfl rfl ⟨rfl, rfl, rfl, rfl, rfl⟩ rfl rfl rfl rfl rfl (by kernel_rfl) Try.func8 fnCompare_facts
    (of_decide_eq_true (by kernel_rfl)) (by unfold Func.isWrapper; first | (rw [if_pos (by decide +kernel)]; kernel_rfl) | (rw [if_neg (by decide +kernel)]; exact ⟨rfl, rfl⟩))
    (fun os started H enc _ => fnCompare_lifted os started H enc)
theorem fnCompare_holds : Rows.FnCompareSaid := fnCompare_over
end Go.Proofs.Ytdnbbodolpgphaa
