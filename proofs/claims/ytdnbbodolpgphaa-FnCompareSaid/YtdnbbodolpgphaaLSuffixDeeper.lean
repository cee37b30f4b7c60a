/-
  FnSuffixDeeper holds: a name that ends in a domain does so with labels more ahead of it. For every input; no condition.
-/
import Derived.Test.YtdnbbodolpgphaaLSuffix
namespace Go.Proofs.Ytdnbbodolpgphaa
open Go.ChangeShapes Go.WideShapes Go.ChangeAt Go.RowKit
open Go.ChangeMaps (open_string shut_string)

theorem hasSufL_deeper (p c : List UInt8) : hasSufL c (p ++ 46 :: c) = true := by
  have e1 : (p ++ 46 :: c).length - c.length = p.length + 1 := by simp; omega
  have e2 : (p ++ 46 :: c).drop (p.length + 1) = c := by
    rw [show p.length + 1 = p.length + 1 from rfl, ← List.drop_drop, List.drop_left' rfl]; simp
  have e3 : (p ++ 46 :: c)[p.length]? = some 46 := by simp
  unfold hasSufL
  rw [e1, e2, show p.length + 1 - 1 = p.length by omega, e3]
  simp [sameL]
  omega
theorem hasSufL_longer (p c : List UInt8) : hasSufL (p ++ 46 :: c) c = false := by
  unfold hasSufL
  have : decide ((p ++ 46 :: c).length ≤ c.length) = false := by simp; omega
  rw [this]; simp
/-- A name of a host in lower case. -/
def GoodName (s : ByteArray) : Prop := nameOk (bytes s) = true ∧ lowL (bytes s) = bytes s
theorem three_get (a b c : ByteArray) (n : Nat) (ha : a.size ≤ n) (hb : b.size ≤ n) (hc : c.size ≤ n) (j : Nat) (h : j < [a, b, c].length) : ([a, b, c][j]).size ≤ n := by
  match j, h with
  | 0, _ => exact ha
  | 1, _ => exact hb
  | 2, _ => exact hc

set_option maxHeartbeats 4000000 in
theorem fnSuffixDeeper_walk (a0 : ByteArray) (w0 : a0.size ≤ maxLen) (a1 : ByteArray) (w1 : a1.size ≤ maxLen) (a2 : ByteArray) (w2 : a2.size ≤ maxLen) (w : World) :
    Calls Try.prog 6 #[.string a0, .string a1, .string a2] w (Ret (.bool true) w) := by
  unfold maxLen at w0 w1 w2
  by_cases g0 : 2147483647 < a0.size
  · go_enter Try.func6, Try.ntmps6
    go_wp2
    go_ret
    exact ⟨rfl, Below.refl _ _⟩
  by_cases g1 : 2147483647 < a1.size
  · go_enter Try.func6, Try.ntmps6
    go_wp2
    go_ret
    exact ⟨rfl, Below.refl _ _⟩
  by_cases g2 : 2147483647 < a2.size
  · go_enter Try.func6, Try.ntmps6
    go_wp2
    go_ret
    exact ⟨rfl, Below.refl _ _⟩
  have d0 : decide (2147483647 < a0.size) = false := by simpa using g0
  have d1 : decide (2147483647 < a1.size) = false := by simpa using g1
  have d2 : decide (2147483647 < a2.size) = false := by simpa using g2
  by_cases gb : 1048576 < a0.size ∨ 1048576 < a1.size ∨ 1048576 < a2.size
  · have HB := Lib.hid (fun W => beyond3 a0.size a1.size a2.size true (by simpa [or_assoc] using gb) W)
    clear gb
    go_enter Try.func6, Try.ntmps6
    go_wp2_with ((go_at_call 20; refine (HB.out _).mono ?_; rintro e w' ⟨rfl, rfl⟩))
    go_ret
    exact ⟨rfl, (by repeat (first | assumption | exact Below.refl _ _ | exact Below.one _ _ | refine Below.next ?_ (by assumption)))⟩
  have HB := Lib.hid (fun W => beyond3 a0.size a1.size a2.size false (by simpa [and_assoc] using gb) W)
  have z0 : a0.size ≤ 1048576 := by omega
  have z1 : a1.size ≤ 1048576 := by omega
  have z2 : a2.size ≤ 1048576 := by omega
  clear gb
  have hsz := Lib.hid (three_get a0 a1 a2 1048576 z0 z1 z2)
  have HR0 : Aside (Rd ((w.alloc (.cells #[.int .i64 (a0.size : Int), .int .i64 (a1.size : Int), .int .i64 (a2.size : Int)] 3)).alloc (.cells #[.string a0, .string a1, .string a2] 9)) (some ⟨w.heap.size + 1, 0, none⟩) (strs [a0, a1, a2])) := by
    have := Rd.new (w.alloc (.cells #[.int .i64 (a0.size : Int), .int .i64 (a1.size : Int), .int .i64 (a2.size : Int)] 3)) #[.string a0, .string a1, .string a2] 9
    show Rd _ _ _
    simpa [strs] using this
  have hb0 : Aside (Below w.heap.size w ((w.alloc (.cells #[.int .i64 (a0.size : Int), .int .i64 (a1.size : Int), .int .i64 (a2.size : Int)] 3)).alloc (.cells #[.string a0, .string a1, .string a2] 9))) := (Below.one _ _).alloc (by simp) _
  go_enter Try.func6, Try.ntmps6
  go_wp2_with ((go_at_call 20; refine (HB.out _).mono ?_; rintro e w' ⟨rfl, rfl⟩))
  go_loopg [35] 3 (fun kx i wr => ∃ k : Nat, k ≤ 3 ∧ 3 - k ≤ kx ∧ i = .int .i64 k ∧ Aside (∀ j (h : j < [a0, a1, a2].length), j < k → GoodName ([a0, a1, a2][j])) ∧ Aside (Rd wr (some ⟨w.heap.size + 1, 0, none⟩) (strs [a0, a1, a2])) ∧ Aside (Below w.heap.size w wr))
  case atStart => exact ⟨0, by omega, by omega, rfl, fun j h h' => by omega, HR0, hb0⟩
  case round =>
    clear HR0 hb0
    obtain ⟨k, hk, hg, rfl, Q, HR, hbw⟩ := hrel
    by_cases hlt : k < 3
    · obtain ⟨ad, had, hadl, hc⟩ := HR.out k _ (strs_get (bs := [a0, a1, a2]) hlt)
      obtain rfl := Option.some.inj had
      have hadd : (⟨w.heap.size + 1, 0, none⟩ : Addr).add k = ⟨w.heap.size + 1, k, none⟩ := by simp [Addr.add]; intro h; exact h.symm
      rw [hadd] at hc
      have hxs := hsz.out k hlt
      have Qx : Aside (GoodName ([a0, a1, a2][k]'hlt) → ∀ j (h : j < [a0, a1, a2].length), j < k + 1 → GoodName ([a0, a1, a2][j])) := fun hx j h hj => by
        by_cases e : j < k
        · exact Q.out j h e
        · have : j = k := by omega
          subst this; exact hx
      clear Q had hadl hadd
      generalize [a0, a1, a2][k]'hlt = x at hc hxs Qx
      have hn := fun W => nameOk_any x (by omega) W
      cases nx : nameOk (bytes x)
      · rw [nx] at hn
        have HN := Lib.hid hn
        clear hn nx
        go_wp2_with ((with_reducible refine (HN.out _).mono ?_); rintro e w1 ⟨rfl, hb1⟩)
        go_ret
        exact ⟨rfl, Below.next hbw.out hb1⟩
      · rw [nx] at hn
        have HN := Lib.hid hn
        have nx' := Lib.hid nx
        clear hn nx
        by_cases lx : lowL (bytes x) = bytes x
        · have HL := Lib.hid (fun W => lower_same x (by omega) lx W)
          have Q2 := Lib.hid (Qx.out ⟨nx'.out, lx⟩)
          clear lx Qx
          go_wp2_with (first | ((with_reducible refine (HN.out _).mono ?_); rintro e w1 ⟨rfl, hb1⟩) | ((with_reducible refine (HL.out _).mono ?_); rintro e w2 ⟨rfl, hb2⟩))
          go_roundg (3 - (k + 1))
          case measure => omega
          case rel => exact ⟨k + 1, by omega, by omega, by go_num, Q2.out, (HR.out.below hb1).below hb2, Below.next (Below.next hbw.out hb1) hb2⟩
        · obtain ⟨y, hy, hla⟩ := lower_other x (by omega) lx
          have HL := Lib.hid hla
          clear hla lx Qx
          go_wp2_with (first | ((with_reducible refine (HN.out _).mono ?_); rintro e w1 ⟨rfl, hb1⟩) | ((with_reducible refine (HL.out _).mono ?_); rintro e w2 ⟨rfl, hb2⟩))
          go_ret
          exact ⟨rfl, Below.next (Below.next hbw.out hb1) hb2⟩
    · have h2 : 0 < a2.size := by
        have := nameOk_pos (Q.out 2 (by simp) (by omega)).1
        rw [bytes_length] at this; exact this
      have e1 : hasSufL (bytes a2) (bytes ((a1 ++ ⟨#[46]⟩) ++ a2)) = true := by
        rw [bytes_append, bytes_append, List.append_assoc]; exact hasSufL_deeper _ _
      have e2 : hasSufL (bytes a2) (bytes ((((a0 ++ ⟨#[46]⟩) ++ a1) ++ ⟨#[46]⟩) ++ a2)) = true := by
        rw [bytes_append, bytes_append, List.append_assoc]; exact hasSufL_deeper _ _
      have e3 : hasSufL (bytes ((a1 ++ ⟨#[46]⟩) ++ a2)) (bytes ((((a0 ++ ⟨#[46]⟩) ++ a1) ++ ⟨#[46]⟩) ++ a2)) = true := by
        simp only [bytes_append, List.append_assoc]; exact hasSufL_deeper _ _
      have e4 : hasSufL (bytes ((a0 ++ ⟨#[46]⟩) ++ a2)) (bytes a2) = false := by
        rw [bytes_append, bytes_append, List.append_assoc]; exact hasSufL_longer _ _
      have s1 := fun W => implSuffix_any a2 ((a1 ++ ⟨#[46]⟩) ++ a2) (by omega) (by simp [ByteArray.size_mk']; omega) h2 W
      have s2 := fun W => implSuffix_any a2 ((((a0 ++ ⟨#[46]⟩) ++ a1) ++ ⟨#[46]⟩) ++ a2) (by omega) (by simp [ByteArray.size_mk']; omega) h2 W
      have s3 := fun W => implSuffix_any ((a1 ++ ⟨#[46]⟩) ++ a2) ((((a0 ++ ⟨#[46]⟩) ++ a1) ++ ⟨#[46]⟩) ++ a2) (by simp [ByteArray.size_mk']; omega) (by simp [ByteArray.size_mk']; omega) (by simp [ByteArray.size_mk']; omega) W
      have s4 := fun W => implSuffix_any ((a0 ++ ⟨#[46]⟩) ++ a2) a2 (by simp [ByteArray.size_mk']; omega) (by omega) (by simp [ByteArray.size_mk']; omega) W
      rw [e1] at s1
      rw [e2] at s2
      rw [e3] at s3
      rw [e4] at s4
      have S1 := Lib.hid s1
      have S2 := Lib.hid s2
      have S3 := Lib.hid s3
      have S4 := Lib.hid s4
      clear e1 e2 e3 e4 s1 s2 s3 s4 Q HR
      go_wp2_with (first | ((with_reducible refine (S1.out _).mono ?_); rintro e w1 ⟨rfl, hb1⟩) | ((with_reducible refine (S2.out _).mono ?_); rintro e w2 ⟨rfl, hb2⟩) | ((with_reducible refine (S3.out _).mono ?_); rintro e w3 ⟨rfl, hb3⟩) | ((with_reducible refine (S4.out _).mono ?_); rintro e w4 ⟨rfl, hb4⟩))
      go_ret
      exact ⟨rfl, Below.next (Below.next (Below.next (Below.next hbw.out hb1) hb2) hb3) hb4⟩

set_option maxRecDepth 100000 in
set_option linter.unusedVariables false in
theorem fnSuffixDeeper_lifted (os : Os) (started : os.Started) (H : Type) (enc : TypeId × Value → H) :
    ReturnsInHanded {} Try.checked os 6 .any (Rows.fnSuffixDeeperSpec.pre6 enc Try.prog Try.f6 Rows.fnSuffixDeeperRow.domain false) (Rows.fnSuffixDeeperSpec.post enc Try.prog Try.f6 false true false false) := by
  refine returnsInHanded_of_change (C := Try.checked) own started (by kernel_rfl) Try.func6
    (ChangeSpec.witness6 (enc := enc) (C := Try.checked) false ⟨#[], #[.string ByteArray.empty, .string ByteArray.empty, .string ByteArray.empty], []⟩ 8 (by kernel_rfl) (by kernel_rfl) (by kernel_rfl) (by kernel_rfl)) ?_
  intro W base args ds gs before hval0 hW hcnd _
  have hval : ∀ (j : Nat) t v, Try.f6.params[j]? = some t → args[j]? = some v → Value.okWide Try.prog W .any base t v := hval0
  have hW' := hW
  obtain ⟨p, q, hA0, hV, rfl, hfz, hnd⟩ := hW
  have hA : DataW.TrodAll enc Try.prog W 0 (fun _ => true) true Try.f6.params.toList args.toList ds p := hA0
  rw [Try.params6] at hA hval
  obtain ⟨v0, vs0, d0, ds0, p0, q0, hargs, rfl, rfl, h0, r0⟩ := trodAll_cons hA
  obtain ⟨v1, vs1, d1, ds1, p1, q1, rfl, rfl, rfl, h1, r1⟩ := trodAll_cons r0
  obtain ⟨v2, vs2, d2, ds2, p2, q2, rfl, rfl, rfl, h2, r2⟩ := trodAll_cons r1
  obtain ⟨rfl, rfl, rfl⟩ := trodAll_nil r2
  obtain rfl : args = #[v0, v1, v2] := by cases args; simp_all
  obtain ⟨rfl, rfl⟩ := trodVars_none hV
  obtain ⟨a0, rfl, rfl, rfl, w0⟩ := open_string Try.underlying9 (hval 0 9 v0 rfl rfl) h0
  obtain ⟨a1, rfl, rfl, rfl, w1⟩ := open_string Try.underlying9 (hval 1 9 v1 rfl rfl) h1
  obtain ⟨a2, rfl, rfl, rfl, w2⟩ := open_string Try.underlying9 (hval 2 9 v2 rfl rfl) h2
  clear hA0 hval0
  refine (fnSuffixDeeper_walk a0 w0 a1 w1 a2 w2 W).mono fun e W' ⟨he, bel⟩ => ?_
  subst he
  exact ⟨_, rfl, _, _, _, [], _, [], hW', trodAll_mk1 (shut_bool Try.underlying4 _), (trodAll_cons_mk (shut_string Try.underlying9 w0) (trodAll_cons_mk (shut_string Try.underlying9 w1) (trodAll_cons_mk (shut_string Try.underlying9 w2) trodAll_mk0))), rfl, bel.frame _, fun h => by cases h⟩
theorem fnSuffixDeeper_facts : joinedFacts Try.prog 6 Try.f6 Rows.fnSuffixDeeperSpec Rows.fnSuffixDeeperRow = true :=
  facts_of rfl head_enter head_lifts head_make rfl rfl (by kernel_rfl) (by kernel_rfl) (by kernel_rfl) (by kernel_rfl) (by kernel_rfl)
theorem fnSuffixDeeper_over : Rows.fnSuffixDeeperRow.holds Try.pinned (OpenSpec.ofChange Rows.fnSuffixDeeperSpec) :=
  OpenClaim.holds_of_wide 6 Try.f6 rfl rfl rfl rfl rfl rfl rfl ⟨rfl, rfl, rfl, rfl, rfl⟩ rfl rfl rfl rfl rfl (by kernel_rfl) Try.func6 fnSuffixDeeper_facts
    (of_decide_eq_true (by kernel_rfl)) (by unfold Func.isWrapper; first | (rw [if_pos (by decide +kernel)]; kernel_rfl) | (rw [if_neg (by decide +kernel)]; exact ⟨rfl, rfl⟩))
    (fun os started H enc _ => fnSuffixDeeper_lifted os started H enc)
theorem fnSuffixDeeper_holds : Rows.FnSuffixDeeperSaid := fnSuffixDeeper_over
end Go.Proofs.Ytdnbbodolpgphaa
