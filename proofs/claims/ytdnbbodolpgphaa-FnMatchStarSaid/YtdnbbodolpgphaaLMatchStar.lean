/-
  FnMatchStar holds: a star meets one label, not none and not two. For every input; no condition.
-/
import Derived.Test.YtdnbbodolpgphaaLMatch
import Derived.Test.YtdnbbodolpgphaaW8
namespace Go.Proofs.Ytdnbbodolpgphaa
open Go.ChangeShapes Go.WideShapes Go.ChangeAt Go.RowKit
open Go.ChangeMaps (open_string shut_string)

/-- append(row of the call's own, xs...) of texts. -/
theorem wpList_append_strs {ops : Array Oper} {rest : List Oper} {o : Oper} {a : Act} {w : World} {Q : Exit → Act → World → Prop} (hgd : o.guard = none) (s x : Operand)
    (ho : o.op = .call { callee := .builtin .append, args := #[s, x], argTypes := #[24, 24] })
    (base0 base : Nat) (va v : Value) (acc xs : List ByteArray) (hs : a.eval s = va) (hown : w.ownsRow base 9 1 va acc.length (strs acc)) (hx : a.eval x = v) (hsrc : w.ownsRow base0 9 1 v xs.length (strs xs))
    (hl : acc.length + xs.length ≤ 2147483648) (hbase : base ≤ w.heap.size)
    (h : ∀ v' w', w'.ownsRow base 9 1 v' (acc ++ xs).length (strs (acc ++ xs)) → Below base w w' → wpList Try.prog ops Q rest (a.put o.dst v') w') : wpList Try.prog ops Q (o :: rest) a w := by
  have hmax : (2147483648 : Nat) ≤ maxLen := by unfold maxLen; omega
  obtain ⟨i0, hi, hz0, hz1, hz2⟩ := info_parts info_string
  obtain ⟨h1, h2⟩ := hsrc
  have hsrc : w.ownsRow base0 9 1 v xs.length (strs xs) := ⟨h1, h2⟩
  rcases h2 with ⟨rfl, h0⟩ | ⟨g, cap, cur, rfl, hg⟩
  · refine wpList_append_own_none hgd s x 24 ho base 9 i0 1 Try.underlying24 hi va _ _ hs hown hx ?_
    have hn : xs = [] := List.eq_nil_of_length_eq_zero h0
    subst hn
    exact h _ _ (by simpa using hown) (Below.refl _ _)
  · refine wpList_append_own _ hgd s x 24 ho base 9 i0 _ 1 16 Try.underlying24 hi hz0 hz1 hz2 rfl (by decide) va _ _ hs hown ⟨g, 0, none⟩ _ _ (strs xs) hx (by rw [strs_length]; omega) (hsrc.cells rfl) (strs_one _) (by omega) (by omega) hbase fun v' w' hown' hgrow _ => ?_
    refine h v' w' (by simpa [strs] using hown') ((Below.refl _ _).grown hgrow hbase (fun k hk => (hown.lt k hk).1))

theorem own_made (w : World) (xs : List ByteArray) (h : xs.length ≤ maxLen) : (w.alloc (.cells (strs xs).toArray 9)).ownsRow w.heap.size 9 1 (.slice (some ⟨w.heap.size, 0, none⟩) xs.length xs.length) xs.length (strs xs) :=
  ⟨by rw [strs_length]; omega, .inr ⟨w.heap.size, xs.length, (strs xs).toArray, rfl, Nat.le_refl _, heap_alloc_new w _, Nat.le_refl _, h, by simp [strs_length], by rw [List.take_of_length_le (by simp [strs_length])]⟩⟩
theorem two_get (a b : ByteArray) (n : Nat) (ha : a.size ≤ n) (hb : b.size ≤ n) (j : Nat) (h : j < [a, b].length) : ([a, b][j]).size ≤ n := by
  match j, h with
  | 0, _ => exact ha
  | 1, _ => exact hb
theorem star_labels (l : List UInt8) (h : lowL l = l) : labelsB (lowL ([42, 46] ++ l)) = ⟨#[42]⟩ :: labelsB l := by
  rw [lowL_append, h]
  rfl
theorem star_one (x : ByteArray) (ps : List ByteArray) : patP (⟨#[42]⟩ :: ps) ([x] ++ ps) := by
  refine ⟨by simp, fun j h h' => ?_⟩
  match j, h, h' with
  | 0, _, _ => exact .inr ⟨rfl, by simp [ByteArray.toList_mk]⟩
  | j + 1, _, _ => left; simp
theorem star_none (ps : List ByteArray) : false = true ↔ patP (⟨#[42]⟩ :: ps) ps :=
  ⟨fun h => (by cases h), fun h => by have := h.1; simp at this⟩
theorem star_two (x y : ByteArray) (ps : List ByteArray) : false = true ↔ patP (⟨#[42]⟩ :: ps) ([x, y] ++ ps) :=
  ⟨fun h => (by cases h), fun h => by have := h.1; simp at this⟩

set_option maxHeartbeats 8000000 in
theorem fnMatchStar_walk (a0 : ByteArray) (w0 : a0.size ≤ maxLen) (a1 : ByteArray) (w1 : a1.size ≤ maxLen) (a2 : ByteArray) (w2 : a2.size ≤ maxLen) (w : World) :
    Calls Try.prog 12 #[.string a0, .string a1, .string a2] w (Ret (.bool true) w) := by
  unfold maxLen at w0 w1 w2
  by_cases g0 : 2147483647 < a0.size
  · go_enter Try.func12, Try.ntmps12
    go_wp2
    go_ret
    exact ⟨rfl, Below.refl _ _⟩
  by_cases g1 : 2147483647 < a1.size
  · go_enter Try.func12, Try.ntmps12
    go_wp2
    go_ret
    exact ⟨rfl, Below.refl _ _⟩
  by_cases g2 : 2147483647 < a2.size
  · go_enter Try.func12, Try.ntmps12
    go_wp2
    go_ret
    exact ⟨rfl, Below.refl _ _⟩
  have d0 : decide (2147483647 < a0.size) = false := by simpa using g0
  have d1 : decide (2147483647 < a1.size) = false := by simpa using g1
  have d2 : decide (2147483647 < a2.size) = false := by simpa using g2
  by_cases gb : 1048576 < a0.size ∨ 1048576 < a1.size ∨ 1048576 < a2.size
  · have HB := Lib.hid (fun W => beyond3 a0.size a1.size a2.size true (by simpa [or_assoc] using gb) W)
    clear gb
    go_enter Try.func12, Try.ntmps12
    go_wp2_with ((go_at_call 20; refine (HB.out _).mono ?_; rintro e w' ⟨rfl, rfl⟩))
    go_ret
    exact ⟨rfl, (by repeat (first | assumption | exact Below.refl _ _ | exact Below.one _ _ | refine Below.next ?_ (by assumption)))⟩
  have HB := Lib.hid (fun W => beyond3 a0.size a1.size a2.size false (by simpa [and_assoc] using gb) W)
  have z0 : a0.size ≤ 1048576 := by omega
  have z1 : a1.size ≤ 1048576 := by omega
  have z2 : a2.size ≤ 1048576 := by omega
  clear gb
  have hsz := Lib.hid (two_get a0 a1 1048576 z0 z1)
  have HR0 : Aside (Rd ((w.alloc (.cells #[.int .i64 (a0.size : Int), .int .i64 (a1.size : Int), .int .i64 (a2.size : Int)] 3)).alloc (.cells #[.string a0, .string a1] 9)) (some ⟨w.heap.size + 1, 0, none⟩) (strs [a0, a1])) := by
    have := Rd.new (w.alloc (.cells #[.int .i64 (a0.size : Int), .int .i64 (a1.size : Int), .int .i64 (a2.size : Int)] 3)) #[.string a0, .string a1] 9
    show Rd _ _ _
    simpa [strs] using this
  have hb0 : Aside (Below w.heap.size w ((w.alloc (.cells #[.int .i64 (a0.size : Int), .int .i64 (a1.size : Int), .int .i64 (a2.size : Int)] 3)).alloc (.cells #[.string a0, .string a1] 9))) := (Below.one _ _).alloc (by simp) _
  go_enter Try.func12, Try.ntmps12
  go_wp2_with ((go_at_call 20; refine (HB.out _).mono ?_; rintro e w' ⟨rfl, rfl⟩))
  go_loopg [38] 2 (fun kx i wr => ∃ k : Nat, k ≤ 2 ∧ 2 - k ≤ kx ∧ i = .int .i64 k ∧ Aside (Rd wr (some ⟨w.heap.size + 1, 0, none⟩) (strs [a0, a1])) ∧ Aside (Below w.heap.size w wr))
  case atStart => exact ⟨0, by omega, by omega, rfl, HR0, hb0⟩
  case round =>
    clear HR0 hb0
    obtain ⟨k, hk, hg, rfl, HR, hbw⟩ := hrel
    by_cases hlt : k < 2
    · obtain ⟨ad, had, hadl, hc⟩ := HR.out k _ (strs_get (bs := [a0, a1]) hlt)
      obtain rfl := Option.some.inj had
      have hadd : (⟨w.heap.size + 1, 0, none⟩ : Addr).add k = ⟨w.heap.size + 1, k, none⟩ := by simp [Addr.add]; intro h; exact h.symm
      rw [hadd] at hc
      have hxs := hsz.out k hlt
      clear had hadl hadd
      generalize [a0, a1][k]'hlt = x at hc hxs
      have hn := fun W => nameOk_any x (by omega) W
      cases nx : nameOk (bytes x)
      · rw [nx] at hn
        have HN := Lib.hid hn
        clear hn nx
        go_wp2_with ((with_reducible refine (HN.out _).mono ?_); rintro e w1 ⟨rfl, hb1⟩)
        go_ret
        exact ⟨rfl, Below.next hbw.out hb1⟩
      · rw [nx] at hn
        have HN := Lib.hid hn
        have HL := Lib.hid (fun W => labels_any x (by omega) W)
        clear hn nx
        go_wp2_with (first | ((with_reducible refine (HN.out _).mono ?_); rintro e w1 ⟨rfl, hb1⟩) | fail)
        refine (HL.out _).mono ?_
        rintro e w2 ⟨v2, rfl, hown2, hb2⟩
        obtain ⟨A2, c2, rfl, -, -, -, -⟩ := Rd.own hown2
        clear hown2
        cases hone : (((labelsB (bytes x)).length : Int) != 1)
        · go_wp2
          go_roundg (2 - (k + 1))
          case measure => omega
          case rel => exact ⟨k + 1, by omega, by omega, by go_num, (HR.out.below hb1).below hb2, Below.next (Below.next hbw.out hb1) hb2⟩
        · go_wp2
          go_ret
          exact ⟨rfl, Below.next (Below.next hbw.out hb1) hb2⟩
    · obtain ⟨wo, rfl⟩ : ∃ wo : World, wo = wr := ⟨_, rfl⟩
      have hnc := fun W => nameOk_any a2 (by omega) W
      cases nc : nameOk (bytes a2)
      · rw [nc] at hnc
        have HNc := Lib.hid hnc
        clear hnc nc
        go_wp2_with (first | ((with_reducible refine (HNc.out _).mono ?_); rintro e w3 ⟨rfl, hb3⟩))
        go_ret
        exact ⟨rfl, Below.next hbw.out hb3⟩
      rw [nc] at hnc
      have HNc := Lib.hid hnc
      clear hnc nc
      have HL0 := Lib.hid (fun W => specLower_any a0 (by omega) W)
      have HL1 := Lib.hid (fun W => specLower_any a1 (by omega) W)
      have HL2 := Lib.hid (fun W => specLower_any a2 (by omega) W)
      have hds : (ofBytes (lowL (bytes a2))).size = a2.size := by rw [size_ofBytes, lowL_length, bytes_length]
      have hsl : labelsB (lowL (bytes (⟨#[42, 46]⟩ ++ ofBytes (lowL (bytes a2))))) = ⟨#[42]⟩ :: labelsB (lowL (bytes a2)) := by
        rw [bytes_append, bytes_ofBytes]
        exact star_labels _ (lowL_lowL _)
      have hlab := fun W => labels_any (ofBytes (lowL (bytes a2))) (by omega) W
      rw [bytes_ofBytes] at hlab
      have hlh : (labelsB (lowL (bytes a2))).length ≤ 1100000000 := by
        have := labelsB_le (lowL (bytes a2))
        rw [lowL_length, bytes_length] at this
        omega
      have hlq : 0 < (labelsB (lowL (bytes a2))).length := List.length_pos_iff.2 (labelsB_ne _)
      have hps : (⟨#[42, 46]⟩ ++ ofBytes (lowL (bytes a2)) : ByteArray).size = a2.size + 2 := by
        have := hds
        simp [ByteArray.size_mk']; omega
      have HM1 := Lib.hid (fun W v base h => implMatch_any (⟨#[42, 46]⟩ ++ ofBytes (lowL (bytes a2))) (by omega) (by omega) base v ([ofBytes (lowL (bytes a0))] ++ labelsB (lowL (bytes a2))) W true (by rw [hsl]; exact ⟨fun _ => star_one _ _, fun _ => rfl⟩) (by simp; omega) (by simp) h)
      have HM2 := Lib.hid (fun W v base h => implMatch_any (⟨#[42, 46]⟩ ++ ofBytes (lowL (bytes a2))) (by omega) (by omega) base v (labelsB (lowL (bytes a2))) W false (by rw [hsl]; exact star_none _) (by omega) hlq h)
      have HM3 := Lib.hid (fun W v base h => implMatch_any (⟨#[42, 46]⟩ ++ ofBytes (lowL (bytes a2))) (by omega) (by omega) base v ([ofBytes (lowL (bytes a1)), ofBytes (lowL (bytes a0))] ++ labelsB (lowL (bytes a2))) W false (by rw [hsl]; exact star_two _ _ _) (by simp; omega) (by simp) h)
      have HLab := Lib.hid hlab
      have hld : (ofBytes (lowL (bytes a2))).size ≤ 1048576 := by omega
      clear hlab hds hsl hps hlq HB hsz HR z0 z1 z2
      generalize ofBytes (lowL (bytes a0)) = la at *
      generalize ofBytes (lowL (bytes a1)) = lb at *
      generalize ofBytes (lowL (bytes a2)) = ld at *
      generalize lowL (bytes a2) = ll at *
      have HLen := Lib.hid hlh
      go_wp2_with (first | ((with_reducible refine (HNc.out _).mono ?_); rintro e w3 ⟨rfl, hb3⟩) | ((with_reducible refine (HL2.out _).mono ?_); rintro e w4 ⟨rfl, hb4⟩))
      refine (HLab.out _).mono ?_
      rintro e w5 ⟨v5, rfl, hown5, hb5⟩
      have HO5 := Lib.hid hown5
      clear hown5
      go_wp2_with fail
      refine (HL0.out _).mono ?_
      rintro e w6 ⟨rfl, hb6⟩
      have HO6 := Lib.hid (own_below HO5.out hb6)
      clear HO5
      have HN7 := Lib.hid (own_made w6 [la] (by simp [maxLen]))
      have HO7 := Lib.hid (own_below HO6.out (Below.one w6 (.cells #[.string la] 9)))
      go_wp2_with (at_builtin; refine wpList_append_strs rfl _ _ rfl _ w6.heap.size _ _ [la] _ rfl HN7.out rfl HO7.out (by have := HLen.out; simp; omega) (by simp) ?_)
      intro v8 w8 hown8 hb8'
      have hb8 : Below w6.heap.size w6 w8 := (Below.one w6 _).trans hb8'
      have HO8 := Lib.hid (own_below HO6.out hb8)
      have HP8 := Lib.hid hown8
      clear hown8 hb8' HN7 HO7 HO6
      go_wp2_with fail
      refine (HL1.out _).mono ?_
      rintro e w9 ⟨rfl, hb9⟩
      have HO9 := Lib.hid (own_below HO8.out hb9)
      have HP9 := Lib.hid (own_below HP8.out hb9)
      clear HO8 HP8
      go_wp2_with fail
      refine (HL0.out _).mono ?_
      rintro e w10 ⟨rfl, hb10⟩
      have HO10 := Lib.hid (own_below HO9.out hb10)
      have HP10 := Lib.hid (own_below HP9.out hb10)
      clear HO9 HP9
      have HN11 := Lib.hid (own_made w10 [lb, la] (by simp [maxLen]))
      have HO11 := Lib.hid (own_below HO10.out (Below.one w10 (.cells #[.string lb, .string la] 9)))
      go_wp2_with (at_builtin; refine wpList_append_strs rfl _ _ rfl _ w10.heap.size _ _ [lb, la] _ rfl HN11.out rfl HO11.out (by have := HLen.out; simp; omega) (by simp) ?_)
      intro v12 w12 hown12 hb12'
      have hb12 : Below w10.heap.size w10 w12 := (Below.one w10 _).trans hb12'
      have HO12 := Lib.hid (own_below HO10.out hb12)
      have HP12 := Lib.hid (own_below HP10.out hb12)
      have HQ12 := Lib.hid hown12
      clear hown12 hb12' HN11 HO11 HO10 HP10
      go_wp2_with fail
      refine (HM1.out _ _ _ HP12.out).mono ?_
      rintro e w13 ⟨rfl, hb13⟩
      have HO13 := Lib.hid (own_below HO12.out hb13)
      have HQ13 := Lib.hid (own_below HQ12.out hb13)
      clear HO12 HQ12 HP12
      go_wp2_with fail
      refine (HM2.out _ _ _ HO13.out).mono ?_
      rintro e w14 ⟨rfl, hb14⟩
      have HQ14 := Lib.hid (own_below HQ13.out hb14)
      clear HO13 HQ13
      go_wp2_with fail
      refine (HM3.out _ _ _ HQ14.out).mono ?_
      rintro e w15 ⟨rfl, hb15⟩
      clear HQ14
      go_wp2
      go_ret
      exact ⟨rfl, Below.next (Below.next (Below.next (Below.next (Below.next (Below.next (Below.next (Below.next (Below.next (Below.next (Below.next hbw.out hb3) hb4) hb5) hb6) hb8) hb9) hb10) hb12) hb13) hb14) hb15⟩

set_option maxRecDepth 100000 in
set_option linter.unusedVariables false in
theorem fnMatchStar_lifted (os : Os) (started : os.Started) (H : Type) (enc : TypeId × Value → H) :
    ReturnsInHanded {} Try.checked os 12 .any (Rows.fnMatchStarSpec.pre6 enc Try.prog Try.f12 Rows.fnMatchStarRow.domain false) (Rows.fnMatchStarSpec.post enc Try.prog Try.f12 false true false false) := by
  refine returnsInHanded_of_change (C := Try.checked) own started (by kernel_rfl) Try.func12
    (ChangeSpec.witness6 (enc := enc) (C := Try.checked) false ⟨#[], #[.string ByteArray.empty, .string ByteArray.empty, .string ByteArray.empty], []⟩ 8 (by kernel_rfl) (by kernel_rfl) (by kernel_rfl) (by kernel_rfl)) ?_
  intro W base args ds gs before hval0 hW hcnd _
  have hval : ∀ (j : Nat) t v, Try.f12.params[j]? = some t → args[j]? = some v → Value.okWide Try.prog W .any base t v := hval0
  have hW' := hW
  obtain ⟨p, q, hA0, hV, rfl, hfz, hnd⟩ := hW
  have hA : DataW.TrodAll enc Try.prog W 0 (fun _ => true) true Try.f12.params.toList args.toList ds p := hA0
  rw [Try.params12] at hA hval
  obtain ⟨v0, vs0, d0, ds0, p0, q0, hargs, rfl, rfl, h0, r0⟩ := trodAll_cons hA
  obtain ⟨v1, vs1, d1, ds1, p1, q1, rfl, rfl, rfl, h1, r1⟩ := trodAll_cons r0
  obtain ⟨v2, vs2, d2, ds2, p2, q2, rfl, rfl, rfl, h2, r2⟩ := trodAll_cons r1
  obtain ⟨rfl, rfl, rfl⟩ := trodAll_nil r2
  obtain rfl : args = #[v0, v1, v2] := by cases args; simp_all
  obtain ⟨rfl, rfl⟩ := trodVars_none hV
  obtain ⟨a0, rfl, rfl, rfl, w0⟩ := open_string Try.underlying9 (hval 0 9 v0 rfl rfl) h0
  obtain ⟨a1, rfl, rfl, rfl, w1⟩ := open_string Try.underlying9 (hval 1 9 v1 rfl rfl) h1
  obtain ⟨a2, rfl, rfl, rfl, w2⟩ := open_string Try.underlying9 (hval 2 9 v2 rfl rfl) h2
  clear hA0 hval0
  refine (fnMatchStar_walk a0 w0 a1 w1 a2 w2 W).mono fun e W' ⟨he, bel⟩ => ?_
  subst he
  exact ⟨_, rfl, _, _, _, [], _, [], hW', trodAll_mk1 (shut_bool Try.underlying4 _), (trodAll_cons_mk (shut_string Try.underlying9 w0) (trodAll_cons_mk (shut_string Try.underlying9 w1) (trodAll_cons_mk (shut_string Try.underlying9 w2) trodAll_mk0))), rfl, bel.frame _, fun h => by cases h⟩
theorem fnMatchStar_facts : joinedFacts Try.prog 12 Try.f12 Rows.fnMatchStarSpec Rows.fnMatchStarRow = true :=
  facts_of rfl head_enter head_lifts head_make rfl rfl (by kernel_rfl) (by kernel_rfl) (by kernel_rfl) (by kernel_rfl) (by kernel_rfl)
theorem fnMatchStar_over : Rows.fnMatchStarRow.holds Try.pinned (OpenSpec.ofChange Rows.fnMatchStarSpec) :=
  OpenClaim.holds_of_wide 12 Try.f12 rfl rfl rfl rfl rfl rfl rfl ⟨rfl, rfl, rfl, rfl, rfl⟩ rfl rfl rfl rfl rfl (by kernel_rfl) Try.func12 fnMatchStar_facts
    (of_decide_eq_true (by kernel_rfl)) (by unfold Func.isWrapper; first | (rw [if_pos (by decide +kernel)]; kernel_rfl) | (rw [if_neg (by decide +kernel)]; exact ⟨rfl, rfl⟩))
    (fun os started H enc _ => fnMatchStar_lifted os started H enc)
theorem fnMatchStar_holds : Rows.FnMatchStarSaid := fnMatchStar_over
end Go.Proofs.Ytdnbbodolpgphaa
