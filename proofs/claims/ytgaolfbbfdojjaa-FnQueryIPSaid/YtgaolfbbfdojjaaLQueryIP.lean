/-
  FnQueryIP holds: an address meets one of some constraints just where it lies in one of these networks. For every input; no condition.
-/
import Derived.Test.YtgaolfbbfdojjaaK1
namespace Go.Proofs.Ytgaolfbbfdojjaa
open Go.ChangeShapes Go.WideShapes Go.ChangeAt Go.RowKit
open Go.ChangeMaps (open_string shut_string)

theorem fnd_met {ns : List NetA} (hg : ∀ N ∈ ns, NetGood N.ad N.ms) (l : List UInt8) : (fnd (ns.map fun N => saysB N l) = 1) ↔ Met ns l := by
  have h1 : (1 : Int) ∈ (ns.map fun N => saysB N l) ↔ Met ns l := by
    rw [List.mem_map]
    unfold Met
    constructor
    · rintro ⟨N, hN, e⟩
      refine ⟨N, hN, (inB_iff (hg N hN).2.1 l).1 ?_⟩
      unfold saysB yesI at e
      cases h : inB N.ad N.ms l
      · rw [h] at e; simp at e
      · rfl
    · rintro ⟨N, hN, e⟩
      refine ⟨N, hN, ?_⟩
      unfold saysB yesI
      rw [(inB_iff (hg N hN).2.1 l).2 e]; rfl
  have h2 : ¬ (2 : Int) ∈ (ns.map fun N => saysB N l) := by
    rw [List.mem_map]
    rintro ⟨N, hN, e⟩
    unfold saysB yesI at e
    split at e <;> omega
  unfold fnd
  rw [if_neg h2]
  constructor
  · intro h
    by_cases h3 : (1 : Int) ∈ (ns.map fun N => saysB N l)
    · exact h1.1 h3
    · rw [if_neg h3] at h; omega
  · intro h
    rw [if_pos (h1.2 h)]
theorem exB (p : Prop) : ∃ b : Bool, b = true ↔ p := by
  by_cases h : p
  · exact ⟨true, by simp [h]⟩
  · exact ⟨false, by simp [h]⟩
set_option maxHeartbeats 2000000 in
theorem fnQueryIP_walk {w : World} (A0 : Option Addr) (n0 c0 : Nat) (ns : List NetA) (w0 : n0 = ns.length ∧ n0 ≤ maxLen ∧ NetsR w A0 ns) (A1 : Option Addr) (n1 c1 : Nat) (l : List UInt8) (w1 : n1 = l.length ∧ n1 ≤ c1 ∧ c1 ≤ maxLen ∧ (A1 = none → c1 = 0) ∧ Rd w A1 (u8s l)) :
    Calls Try.prog 5 #[.slice A0 n0 c0, .slice A1 n1 c1] w (Ret (.bool true) w) := by
  obtain ⟨rfl, m0, r0⟩ := w0
  obtain ⟨rfl, m1, m2, m3, r1⟩ := w1
  unfold maxLen at m0 m2
  have R0 := Lib.hid r0
  have R1 := Lib.hid r1
  have M3 := Lib.hid m3
  have HF := fun b hb => fits3_any A0 _ c0 ns w rfl (by omega) r0 b hb
  clear r0 r1 m3
  by_cases gf : ns.length ≤ 2147483647 ∧ ∀ N ∈ ns, FitN N
  rotate_left
  · have H0 := Lib.hid (HF false ⟨fun e => (by cases e), fun e => absurd e gf⟩)
    clear HF gf
    go_enter Try.func5, Try.ntmps5
    go_wp2_with ((with_reducible refine H0.out.mono ?_); rintro e w1 ⟨rfl, hb1⟩)
    go_ret
    exact ⟨rfl, hb1⟩
  have H0 := Lib.hid (HF true ⟨fun _ => gf, fun _ => rfl⟩)
  obtain ⟨g0, gN⟩ := gf
  have GN := Lib.hid gN
  clear HF gN
  by_cases g1 : 2147483647 < l.length
  · go_enter Try.func5, Try.ntmps5
    go_wp2_with ((with_reducible refine H0.out.mono ?_); rintro e w1 ⟨rfl, hb1⟩)
    go_ret
    exact ⟨rfl, hb1⟩
  by_cases gb : 1048576 < ns.length ∨ 1048576 < l.length
  · have HB := Lib.hid (fun W => beyond2 ns.length l.length true (by simpa using gb) W)
    have g1' : l.length ≤ 2147483647 := by omega
    clear gb g1
    go_enter Try.func5, Try.ntmps5
    go_wp2_with (first | ((with_reducible refine H0.out.mono ?_); rintro e w1 ⟨rfl, hb1⟩) | (go_at_call 14; refine (HB.out _).mono ?_; rintro e w2 ⟨rfl, rfl⟩))
    go_ret
    exact ⟨rfl, hb1.alloc hb1.size _⟩
  have HB := Lib.hid (fun W => beyond2 ns.length l.length false (by simpa using gb) W)
  have z1 : l.length ≤ 1048576 := by omega
  have z0 : ns.length ≤ 1048576 := by omega
  clear gb g1 g0
  have HK : ∀ b : Bool, (b = true ↔ NetsGood ns) → ∀ W, Below w.heap.size w W → Calls Try.prog 15 #[.slice A0 ns.length c0] W (Ret (.bool b) W) := fun b hb W hW => netsOk_any A0 _ c0 ns W rfl (by omega) GN.out (R0.out.below hW) b hb
  by_cases gk : NetsGood ns
  rotate_left
  · have HK1 := Lib.hid (HK false ⟨fun e => (by cases e), fun e => absurd e gk⟩)
    clear HK gk
    go_enter Try.func5, Try.ntmps5
    go_wp2_with fail
    refine H0.out.mono ?_
    rintro e w1 ⟨rfl, hb1⟩
    have HB1 := Lib.hid (hb1.alloc hb1.size (.cells #[.int .i64 (ns.length : Int), .int .i64 (l.length : Int)] 3))
    clear hb1
    go_wp2_with (first | (go_at_call 14; refine (HB.out _).mono ?_; rintro e w2 ⟨rfl, rfl⟩) | ((with_reducible refine (HK1.out _ HB1.out).mono ?_); rintro e w3 ⟨rfl, hb3⟩))
    go_ret
    exact ⟨rfl, HB1.out.trans (hb3.mono HB1.out.size)⟩
  have HK1 := Lib.hid (HK true ⟨fun _ => gk, fun _ => rfl⟩)
  have GK := Lib.hid gk
  clear HK gk
  have HA : ∀ b : Bool, (b = true ↔ AddrOk l) → ∀ W, Below w.heap.size w W → Calls Try.prog 16 #[.slice A1 l.length c1] W (Ret (.bool b) W) := fun b hb W hW => addrOk_any A1 _ c1 l W rfl (by omega) (R1.out.below hW) b hb
  by_cases ga : AddrOk l
  rotate_left
  · have HA1 := Lib.hid (HA false ⟨fun e => (by cases e), fun e => absurd e ga⟩)
    clear HA ga
    go_enter Try.func5, Try.ntmps5
    go_wp2_with fail
    refine H0.out.mono ?_
    rintro e w1 ⟨rfl, hb1⟩
    have HB1 := Lib.hid (hb1.alloc hb1.size (.cells #[.int .i64 (ns.length : Int), .int .i64 (l.length : Int)] 3))
    clear hb1
    go_wp2_with (go_at_call 14; refine (HB.out _).mono ?_; rintro e w2 ⟨rfl, rfl⟩)
    refine (HK1.out _ HB1.out).mono ?_
    rintro e w3 ⟨rfl, hb3⟩
    have HB3 := Lib.hid (HB1.out.trans (hb3.mono HB1.out.size))
    clear hb3 HB1
    go_wp2_with ((with_reducible refine (HA1.out _ HB3.out).mono ?_); rintro e w4 ⟨rfl, hb4⟩)
    go_ret
    exact ⟨rfl, HB3.out.trans (hb4.mono HB3.out.size)⟩
  have HA1 := Lib.hid (HA true ⟨fun _ => ga, fun _ => rfl⟩)
  have hl16 := ga.len
  obtain ⟨b, hb⟩ := exB (Met ns l)
  have HQ : Hid (∀ W, Below w.heap.size w W → Calls Try.prog 17 #[.slice A0 ns.length c0, .slice A1 l.length c1] W (Ret (.bool b) W)) := fun W hW => implQueryIP_any A0 _ c0 ns W rfl (by omega) (R0.out.below hW) GK.out.1 A1 _ c1 l rfl M3.out (R1.out.below hW) ga b hb
  have HO : Hid (∀ W, Below w.heap.size w W → Calls Try.prog 19 #[.slice A0 ns.length c0, .slice A1 l.length c1] W (SaysPost (ns.map fun N => saysB N l) W)) := fun W hW => ofNets_any A0 _ c0 ns W rfl (by omega) (R0.out.below hW) GK.out.1 A1 _ c1 l rfl (R1.out.below hW) (by omega)
  have hX : (ns.map fun N => saysB N l).length ≤ 2147483647 := by rw [List.length_map]; omega
  have hz : (fnd (ns.map fun N => saysB N l) == 1) = b := by
    rw [Bool.eq_iff_iff, beq_iff_eq, hb]
    exact fnd_met GK.out.1 l
  generalize (ns.map fun N => saysB N l) = X at HO hX hz
  have HY : Hid (∀ A c W, Rd W A (ints X) → Calls Try.prog 18 #[.slice A X.length c] W fun e w' => e = .returned (.int .i64 (fnd X)) ∧ W = w') := fun A c W h => any_any A _ c X W rfl hX h
  generalize fnd X = z at HY hz
  clear HA hb ga hl16 R0 R1 GK GN M3
  cases b
  all_goals
    go_enter Try.func5, Try.ntmps5
    go_wp2_with fail
    refine H0.out.mono ?_
    rintro e w1 ⟨rfl, hb1⟩
    have HB1 := Lib.hid (hb1.alloc hb1.size (.cells #[.int .i64 (ns.length : Int), .int .i64 (l.length : Int)] 3))
    clear hb1
    go_wp2_with (go_at_call 14; refine (HB.out _).mono ?_; rintro e w2 ⟨rfl, rfl⟩)
    refine (HK1.out _ HB1.out).mono ?_
    rintro e w3 ⟨rfl, hb3⟩
    have HB3 := Lib.hid (HB1.out.trans (hb3.mono HB1.out.size))
    clear hb3 HB1
    go_wp2_with fail
    refine (HA1.out _ HB3.out).mono ?_
    rintro e w4 ⟨rfl, hb4⟩
    have HB4 := Lib.hid (HB3.out.trans (hb4.mono HB3.out.size))
    clear hb4 HB3
    go_wp2_with fail
    refine (HQ.out _ HB4.out).mono ?_
    rintro e w5 ⟨rfl, hb5⟩
    have HB5 := Lib.hid (HB4.out.trans (hb5.mono HB4.out.size))
    clear hb5 HB4
    go_wp2_with fail
    refine (HO.out _ HB5.out).mono ?_
    rintro e w6 ⟨C, d, rfl, hrd, hb6⟩
    have HB6 := Lib.hid (HB5.out.trans (hb6.mono HB5.out.size))
    have HY2 := Lib.hid (HY.out C d w6 hrd)
    clear hb6 hrd HB5 HY
    go_wp2_with ((with_reducible refine HY2.out.mono ?_); rintro e w7 ⟨rfl, rfl⟩)
    go_ret
    exact ⟨rfl, HB6.out⟩
set_option maxRecDepth 100000 in
set_option linter.unusedVariables false in
theorem fnQueryIP_lifted (os : Os) (started : os.Started) (H : Type) (enc : TypeId × Value → H) :
    ReturnsInHanded {} Try.checked os 5 .any (Rows.fnQueryIPSpec.pre6 enc Try.prog Try.f5 Rows.fnQueryIPRow.domain false) (Rows.fnQueryIPSpec.post enc Try.prog Try.f5 false true false false) := by
  refine returnsInHanded_of_change (C := Try.checked) own started (by kernel_rfl) Try.func5
    (ChangeSpec.witness6 (enc := enc) (C := Try.checked) false ⟨#[], #[.slice none 0 0, .slice none 0 0], []⟩ 8 (by kernel_rfl) (by kernel_rfl) (by kernel_rfl) (by kernel_rfl)) ?_
  intro W base args ds gs before hval0 hW hcnd _
  have hval : ∀ (j : Nat) t v, Try.f5.params[j]? = some t → args[j]? = some v → Value.okWide Try.prog W .any base t v := hval0
  have hW' := hW
  obtain ⟨p, q, hA0, hV, rfl, hfz, hnd⟩ := hW
  have hA : DataW.TrodAll enc Try.prog W 0 (fun _ => true) true Try.f5.params.toList args.toList ds p := hA0
  rw [Try.params5] at hA hval
  obtain ⟨v0, vs0, d0, ds0, p0, q0, hargs, rfl, rfl, h0, r0⟩ := trodAll_cons hA
  obtain ⟨v1, vs1, d1, ds1, p1, q1, rfl, rfl, rfl, h1, r1⟩ := trodAll_cons r0
  obtain ⟨rfl, rfl, rfl⟩ := trodAll_nil r1
  obtain rfl : args = #[v0, v1] := by cases args; simp_all
  obtain ⟨rfl, rfl⟩ := trodVars_none hV
  have k0 := h0
  have lt0 : ∀ x ∈ p0, x.block < W.heap.size := by obtain ⟨m, hm⟩ := k0; exact DataW.trod_lt m _ _ _ hm
  obtain ⟨A0, n0, c0, ns0, rfl, w0⟩ := opened_nets (hval 0 28 v0 rfl rfl) h0
  have k1 := h1
  have lt1 : ∀ x ∈ p1, x.block < W.heap.size := by obtain ⟨m, hm⟩ := k1; exact DataW.trod_lt m _ _ _ hm
  obtain ⟨A1, n1, c1, bs1, rfl, w1⟩ := opened_bytes (hval 1 22 v1 rfl rfl) h1
  clear hA0 hval0
  refine (fnQueryIP_walk (w := W) A0 n0 c0 ns0 w0 A1 n1 c1 bs1 w1).mono fun e W' ⟨he, bel⟩ => ?_
  subst he
  exact ⟨_, rfl, _, _, _, [], _, [], hW', trodAll_mk1 (shut_bool Try.underlying4 _), (trodAll_cons_mk (Below.trod laidOut (by kernel_rfl) (of_decide_eq_true (by kernel_rfl)) k0 bel lt0) (trodAll_cons_mk (Below.trod laidOut (by kernel_rfl) (of_decide_eq_true (by kernel_rfl)) k1 bel lt1) trodAll_mk0)), rfl, bel.frame _, fun h => by cases h⟩
theorem fnQueryIP_facts : joinedFacts Try.prog 5 Try.f5 Rows.fnQueryIPSpec Rows.fnQueryIPRow = true :=
  facts_of rfl head_enter head_lifts head_make rfl rfl (by kernel_rfl) (by kernel_rfl) (by kernel_rfl) (by kernel_rfl) (by kernel_rfl)
theorem fnQueryIP_over : Rows.fnQueryIPRow.holds Try.pinned (OpenSpec.ofChange Rows.fnQueryIPSpec) :=
  OpenClaim.holds_of_wide 5 Try.f5 rfl rfl rfl rfl rfl rfl rfl ⟨rfl, rfl, rfl, rfl, rfl⟩ rfl rfl rfl rfl rfl (by kernel_rfl) Try.func5 fnQueryIP_facts
    (of_decide_eq_true (by kernel_rfl)) (by unfold Func.isWrapper; first | (rw [if_pos (by decide +kernel)]; kernel_rfl) | (rw [if_neg (by decide +kernel)]; exact ⟨rfl, rfl⟩))
    (fun os started H enc _ => fnQueryIP_lifted os started H enc)
theorem fnQueryIP_holds : Rows.FnQueryIPSaid := fnQueryIP_over
end Go.Proofs.Ytgaolfbbfdojjaa
