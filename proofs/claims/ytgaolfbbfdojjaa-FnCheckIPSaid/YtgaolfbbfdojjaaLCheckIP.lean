/-
  FnCheckIP holds: an address is refused just where it lies in an excluded network, or there are permitted ones and it lies in none. For every input; no condition.
-/
import Derived.Test.YtgaolfbbfdojjaaN18
namespace Go.Proofs.Ytgaolfbbfdojjaa
open Go.ChangeShapes Go.WideShapes Go.ChangeAt Go.RowKit
open Go.ChangeMaps (open_string shut_string)

theorem exB (p : Prop) : ∃ b : Bool, b = true ↔ p := by
  by_cases h : p
  · exact ⟨true, by simp [h]⟩
  · exact ⟨false, by simp [h]⟩
theorem text_not : endsB (({ data := #[73, 80, 32, 97, 100, 100, 114, 101, 115, 115] } : ByteArray) ++ { data := #[32, 105, 115, 32, 110, 111, 116, 32, 112, 101, 114, 109, 105, 116, 116, 101, 100, 32, 98, 121, 32, 97, 110, 121, 32, 99, 111, 110, 115, 116, 114, 97, 105, 110, 116] }) notT = true := by decide +kernel
theorem text_exc : endsB (({ data := #[73, 80, 32, 97, 100, 100, 114, 101, 115, 115] } : ByteArray) ++ { data := #[32, 105, 115, 32, 101, 120, 99, 108, 117, 100, 101, 100, 32, 98, 121, 32, 97, 32, 99, 111, 110, 115, 116, 114, 97, 105, 110, 116] }) notT = false ∧ endsB (({ data := #[73, 80, 32, 97, 100, 100, 114, 101, 115, 115] } : ByteArray) ++ { data := #[32, 105, 115, 32, 101, 120, 99, 108, 117, 100, 101, 100, 32, 98, 121, 32, 97, 32, 99, 111, 110, 115, 116, 114, 97, 105, 110, 116] }) excT = true := by decide +kernel
theorem text_size : (({ data := #[73, 80, 32, 97, 100, 100, 114, 101, 115, 115] } : ByteArray) ++ { data := #[32, 105, 115, 32, 110, 111, 116, 32, 112, 101, 114, 109, 105, 116, 116, 101, 100, 32, 98, 121, 32, 97, 110, 121, 32, 99, 111, 110, 115, 116, 114, 97, 105, 110, 116] }).size ≤ 2147483647 ∧ (({ data := #[73, 80, 32, 97, 100, 100, 114, 101, 115, 115] } : ByteArray) ++ { data := #[32, 105, 115, 32, 101, 120, 99, 108, 117, 100, 101, 100, 32, 98, 121, 32, 97, 32, 99, 111, 110, 115, 116, 114, 97, 105, 110, 116] }).size ≤ 2147483647 := by decide +kernel
def codeI (r : Bool) : Int := if r = true then 1 else 0
theorem codeOf_chk (r : Bool) (w : World) (e : Ending) (w1 : World) (h : ChkPost { data := #[73, 80, 32, 97, 100, 100, 114, 101, 115, 115] } r w e w1) : ∃ v, e = .returned v ∧ Calls Try.prog 33 #[v] w1 (SameE (.int .i64 (codeI r)) w1) := by
  obtain ⟨-, h⟩ := h
  rcases h with ⟨rfl, rfl⟩ | ⟨rfl, v, s, rfl, he, hs⟩
  · exact ⟨_, rfl, codeOf_nil w1⟩
  · refine ⟨_, rfl, codeOf_refused v s w1 he ?_ ?_⟩
    · rcases hs with rfl | rfl
      · exact text_size.1
      · exact text_size.2
    · rcases hs with rfl | rfl
      · exact .inl text_not
      · exact .inr text_exc
set_option maxHeartbeats 2000000 in
theorem implCheckIP_any (B D : Option Addr) (m1 d1 m2 d2 : Nat) (ns ms : List NetA) (w : World) (hm1 : m1 = ns.length) (hm2 : m2 = ms.length) (hl1 : ns.length ≤ 2147483647) (hl2 : ms.length ≤ 2147483647) (hr1 : NetsR w B ns) (hr2 : NetsR w D ms) (hg1 : ∀ N ∈ ns, NetGood N.ad N.ms) (hg2 : ∀ N ∈ ms, NetGood N.ad N.ms)
    (A : Option Addr) (n c : Nat) (l : List UInt8) (hn : n = l.length) (hA : A = none → c = 0) (hr : Rd w A (u8s l)) (ha : AddrOk l) :
    Calls Try.prog 21 #[.slice B m1 d1, .slice D m2 d2, .slice A n c] w (Ret (.int .i64 (ruleV (ns.map fun N => saysB N l) (ms.map fun N => saysB N l))) w) := by
  subst hn
  have hll := ha.len
  obtain ⟨b1, hb1⟩ := exB (Met ns l)
  obtain ⟨b2, hb2⟩ := exB (Met ms l)
  have H1 := Lib.hid (networks_any B m1 d1 ns w hm1 hl1 hr1 fun N hN => (hg1 N hN).bounds)
  have H2 : Hid (∀ W, Below w.heap.size w W → Calls Try.prog 30 #[.slice D m2 d2] W (NetsPost ms W)) := fun W hW => networks_any D m2 d2 ms W hm2 hl2 (hr2.below hW) fun N hN => (hg2 N hN).bounds
  have H3 : Hid (∀ W, Below w.heap.size w W → Calls Try.prog 31 #[.slice A l.length c] W (CopyPost l W)) := fun W hW => copied_any A _ c l W rfl (by omega) hA (hr.below hW)
  have HZ : Hid (∀ (C F G : Option Addr) (ps qs : List (Nat × NetA)) (e1 e2 f : Nat) (W : World), Rd W C (ps.map encP) → Rd W F (qs.map encP) → ps.map (fun p => keyA p.2) = ns.map keyA → qs.map (fun p => keyA p.2) = ms.map keyA → (∀ p ∈ ps, NetP W p.1 p.2) → (∀ p ∈ qs, NetP W p.1 p.2) → l.length ≤ f → Rd W G (u8s l) →
      ∃ r, ruleV (ns.map fun N => saysB N l) (ms.map fun N => saysB N l) = codeI r ∧ Calls Try.prog 34 #[.slice C ps.length e1, .slice F qs.length e2, .slice G l.length f] W (ChkPost { data := #[73, 80, 32, 97, 100, 100, 114, 101, 115, 115] } r W)) := fun C F G ps qs e1 e2 f W q1 q2 q3 q4 q5 q6 q7 q8 =>
    ⟨_, refB_rule hg1 hg2 q3 q4 hb1 hb2, zzCheckIP_any C F _ e1 _ e2 ps qs W rfl rfl (by have := congrArg List.length q3; simp at this; omega) (by have := congrArg List.length q4; simp at this; omega) q1 q2 (isN_keys q3 hg1 q5) (isN_keys q4 hg2 q6) G _ f l rfl q7 q8 ha b1 b2 (hb1.trans (met_keys q3 l).symm) (hb2.trans (met_keys q4 l).symm) _ rfl⟩
  generalize ruleV (ns.map fun N => saysB N l) (ms.map fun N => saysB N l) = z at HZ ⊢
  clear hm1 hm2 hl1 hl2 hr1 hr2 hg1 hg2 hA hr ha hb1 hb2 hll
  go_enter Try.func21, Try.ntmps21
  go_wp2_with fail
  refine H1.out.mono ?_
  rintro e w1 ⟨v, ps, rfl, hown, hkeys, hnets, hw1⟩
  obtain ⟨C, e1, rfl, -, -, hrd, -⟩ := Rd.own hown
  have HR1 := Lib.hid hrd
  have HK1 := Lib.hid hkeys
  have HS1 := Lib.hid hnets
  have HB1 := Lib.hid hw1
  clear hown hkeys hnets hw1 hrd H1
  go_wp2_with fail
  refine (H2.out w1 HB1.out).mono ?_
  rintro e w2 ⟨v, qs, rfl, hown, hkeys, hnets, hw2⟩
  obtain ⟨F, e2, rfl, -, -, hrd, -⟩ := Rd.own hown
  have HR2 := Lib.hid hrd
  have HK2 := Lib.hid hkeys
  have HS2 := Lib.hid hnets
  have HL2 := Lib.hid hw2
  have HB2 := Lib.hid (HB1.out.trans (hw2.mono HB1.out.size))
  clear hown hkeys hnets hw2 hrd H2
  go_wp2_with fail
  refine (H3.out w2 HB2.out).mono ?_
  rintro e3 w3 ⟨G, f, rfl, hf, -, -, hrd3, hw3⟩
  obtain ⟨r, hz, hcall⟩ := HZ.out C F G ps qs e1 e2 f w3 ((HR1.out.below HL2.out).below hw3) (HR2.out.below hw3) HK1.out HK2.out (fun p hp => ((HS1.out p hp).below HL2.out).below hw3) (fun p hp => (HS2.out p hp).below hw3) hf hrd3
  have HC := Lib.hid hcall
  have HZ0 := Lib.hid hz
  have HB3 := Lib.hid (HB2.out.trans (hw3.mono HB2.out.size))
  clear hf hrd3 hw3 hcall hz HZ HR1 HR2 HS1 HS2 HL2 HB1 HB2 H3
  go_wp2_with fail
  refine HC.out.mono ?_
  rintro e4 w4 hck
  obtain ⟨v4, rfl, hco⟩ := codeOf_chk r w3 e4 w4 hck
  have HCo := Lib.hid hco
  have HB4 := Lib.hid (HB3.out.trans (hck.1.mono HB3.out.size))
  clear hck hco HC HB3
  go_wp2_with ((with_reducible refine HCo.out.mono ?_); rintro e w5 ⟨rfl, rfl⟩)
  go_ret
  exact ⟨ret_int HZ0.out.symm, HB4.out⟩
set_option maxHeartbeats 4000000 in
theorem fnCheckIP_walk {w : World} (A0 : Option Addr) (n0 c0 : Nat) (ns : List NetA) (w0 : n0 = ns.length ∧ n0 ≤ maxLen ∧ NetsR w A0 ns) (A1 : Option Addr) (n1 c1 : Nat) (ms : List NetA) (w1 : n1 = ms.length ∧ n1 ≤ maxLen ∧ NetsR w A1 ms) (A2 : Option Addr) (n2 c2 : Nat) (l : List UInt8) (w2 : n2 = l.length ∧ n2 ≤ c2 ∧ c2 ≤ maxLen ∧ (A2 = none → c2 = 0) ∧ Rd w A2 (u8s l)) :
    Calls Try.prog 7 #[.slice A0 n0 c0, .slice A1 n1 c1, .slice A2 n2 c2] w (Ret (.bool true) w) := by
  obtain ⟨rfl, m0, r0⟩ := w0
  obtain ⟨rfl, m1, r1⟩ := w1
  obtain ⟨rfl, m2, m3, m4, r2⟩ := w2
  unfold maxLen at m0 m1 m3
  have R0 := Lib.hid r0
  have R1 := Lib.hid r1
  have R2 := Lib.hid r2
  have M4 := Lib.hid m4
  have HF0 := fun b hb => fits3_any A0 _ c0 ns w rfl (by omega) r0 b hb
  have HF1 := fun b hb W (hW : Below w.heap.size w W) => fits3_any A1 _ c1 ms W rfl (by omega) (r1.below hW) b hb
  clear r0 r1 r2 m4
  by_cases gf0 : ns.length ≤ 2147483647 ∧ ∀ N ∈ ns, FitN N
  rotate_left
  · have H0 := Lib.hid (HF0 false ⟨fun e => (by cases e), fun e => absurd e gf0⟩)
    clear HF0 HF1 gf0
    go_enter Try.func7, Try.ntmps7
    go_wp2_with ((with_reducible refine H0.out.mono ?_); rintro e w1 ⟨rfl, hb1⟩)
    go_ret
    exact ⟨rfl, hb1⟩
  have H0 := Lib.hid (HF0 true ⟨fun _ => gf0, fun _ => rfl⟩)
  obtain ⟨g0, gN0⟩ := gf0
  have GN0 := Lib.hid gN0
  clear HF0 gN0
  by_cases gf1 : ms.length ≤ 2147483647 ∧ ∀ N ∈ ms, FitN N
  rotate_left
  · have H1 := Lib.hid (HF1 false ⟨fun e => (by cases e), fun e => absurd e gf1⟩)
    clear HF1 gf1
    go_enter Try.func7, Try.ntmps7
    go_wp2_with fail
    refine H0.out.mono ?_
    rintro e w1 ⟨rfl, hb1⟩
    have HB1 := Lib.hid hb1
    clear hb1
    go_wp2_with ((with_reducible refine (H1.out _ HB1.out).mono ?_); rintro e w2 ⟨rfl, hb2⟩)
    go_ret
    exact ⟨rfl, HB1.out.trans (hb2.mono HB1.out.size)⟩
  have H1 := Lib.hid (HF1 true ⟨fun _ => gf1, fun _ => rfl⟩)
  obtain ⟨g1, gN1⟩ := gf1
  have GN1 := Lib.hid gN1
  clear HF1 gN1
  by_cases g2 : 2147483647 < l.length
  · go_enter Try.func7, Try.ntmps7
    go_wp2_with fail
    refine H0.out.mono ?_
    rintro e w1 ⟨rfl, hb1⟩
    have HB1 := Lib.hid hb1
    clear hb1
    go_wp2_with ((with_reducible refine (H1.out _ HB1.out).mono ?_); rintro e w2 ⟨rfl, hb2⟩)
    go_ret
    exact ⟨rfl, HB1.out.trans (hb2.mono HB1.out.size)⟩
  by_cases gb : (1048576 < ns.length ∨ 1048576 < ms.length) ∨ 1048576 < l.length
  · have HB := Lib.hid (fun W => beyond3 ns.length ms.length l.length true (by simpa using gb) W)
    have g2' : l.length ≤ 2147483647 := by omega
    clear gb g2
    go_enter Try.func7, Try.ntmps7
    go_wp2_with fail
    refine H0.out.mono ?_
    rintro e w1 ⟨rfl, hb1⟩
    have HB1 := Lib.hid hb1
    clear hb1
    go_wp2_with fail
    refine (H1.out _ HB1.out).mono ?_
    rintro e w2 ⟨rfl, hb1⟩
    have HB2 := Lib.hid (HB1.out.trans (hb1.mono HB1.out.size))
    clear hb1 HB1
    go_wp2_with (go_at_call 14; refine (HB.out _).mono ?_; rintro e w3 ⟨rfl, rfl⟩)
    go_ret
    exact ⟨rfl, HB2.out.alloc HB2.out.size _⟩
  have HB := Lib.hid (fun W => beyond3 ns.length ms.length l.length false (by simpa using gb) W)
  have z0 : ns.length ≤ 1048576 := by omega
  have z1 : ms.length ≤ 1048576 := by omega
  have z2 : l.length ≤ 1048576 := by omega
  clear gb g2 g0 g1
  have HK0 : ∀ b : Bool, (b = true ↔ NetsGood ns) → ∀ W, Below w.heap.size w W → Calls Try.prog 15 #[.slice A0 ns.length c0] W (Ret (.bool b) W) := fun b hb W hW => netsOk_any A0 _ c0 ns W rfl (by omega) GN0.out (R0.out.below hW) b hb
  have HK1 : ∀ b : Bool, (b = true ↔ NetsGood ms) → ∀ W, Below w.heap.size w W → Calls Try.prog 15 #[.slice A1 ms.length c1] W (Ret (.bool b) W) := fun b hb W hW => netsOk_any A1 _ c1 ms W rfl (by omega) GN1.out (R1.out.below hW) b hb
  have HA : ∀ b : Bool, (b = true ↔ AddrOk l) → ∀ W, Below w.heap.size w W → Calls Try.prog 16 #[.slice A2 l.length c2] W (Ret (.bool b) W) := fun b hb W hW => addrOk_any A2 _ c2 l W rfl (by omega) (R2.out.below hW) b hb
  by_cases gk0 : NetsGood ns
  rotate_left
  · have HK := Lib.hid (HK0 false ⟨fun e => (by cases e), fun e => absurd e gk0⟩)
    clear HK0 HK1 HA gk0
    go_enter Try.func7, Try.ntmps7
    go_wp2_with fail
    refine H0.out.mono ?_
    rintro e w1 ⟨rfl, hb1⟩
    have HB1 := Lib.hid hb1
    clear hb1
    go_wp2_with fail
    refine (H1.out _ HB1.out).mono ?_
    rintro e w2 ⟨rfl, hb1⟩
    have HB2 := Lib.hid (HB1.out.trans (hb1.mono HB1.out.size))
    clear hb1 HB1
    go_wp2_with fail
    go_at_call 14
    refine (HB.out _).mono ?_
    rintro e wz ⟨rfl, rfl⟩
    have HB3 := Lib.hid (HB2.out.alloc HB2.out.size (.cells #[.int .i64 (ns.length : Int), .int .i64 (ms.length : Int), .int .i64 (l.length : Int)] 3))
    clear HB2
    go_wp2_with ((with_reducible refine (HK.out _ HB3.out).mono ?_); rintro e w4 ⟨rfl, hb4⟩)
    go_ret
    exact ⟨rfl, HB3.out.trans (hb4.mono HB3.out.size)⟩
  have HKa := Lib.hid (HK0 true ⟨fun _ => gk0, fun _ => rfl⟩)
  by_cases gk1 : NetsGood ms
  rotate_left
  · have HK := Lib.hid (HK1 false ⟨fun e => (by cases e), fun e => absurd e gk1⟩)
    clear HK0 HK1 HA gk0 gk1
    go_enter Try.func7, Try.ntmps7
    go_wp2_with fail
    refine H0.out.mono ?_
    rintro e w1 ⟨rfl, hb1⟩
    have HB1 := Lib.hid hb1
    clear hb1
    go_wp2_with fail
    refine (H1.out _ HB1.out).mono ?_
    rintro e w2 ⟨rfl, hb1⟩
    have HB2 := Lib.hid (HB1.out.trans (hb1.mono HB1.out.size))
    clear hb1 HB1
    go_wp2_with fail
    go_at_call 14
    refine (HB.out _).mono ?_
    rintro e wz ⟨rfl, rfl⟩
    have HB3 := Lib.hid (HB2.out.alloc HB2.out.size (.cells #[.int .i64 (ns.length : Int), .int .i64 (ms.length : Int), .int .i64 (l.length : Int)] 3))
    clear HB2
    go_wp2_with fail
    refine (HKa.out _ HB3.out).mono ?_
    rintro e w4 ⟨rfl, hb1⟩
    have HB4 := Lib.hid (HB3.out.trans (hb1.mono HB3.out.size))
    clear hb1 HB3
    go_wp2_with ((with_reducible refine (HK.out _ HB4.out).mono ?_); rintro e w5 ⟨rfl, hb5⟩)
    go_ret
    exact ⟨rfl, HB4.out.trans (hb5.mono HB4.out.size)⟩
  have HKb := Lib.hid (HK1 true ⟨fun _ => gk1, fun _ => rfl⟩)
  by_cases ga : AddrOk l
  rotate_left
  · have HK := Lib.hid (HA false ⟨fun e => (by cases e), fun e => absurd e ga⟩)
    clear HK0 HK1 HA gk0 gk1 ga
    go_enter Try.func7, Try.ntmps7
    go_wp2_with fail
    refine H0.out.mono ?_
    rintro e w1 ⟨rfl, hb1⟩
    have HB1 := Lib.hid hb1
    clear hb1
    go_wp2_with fail
    refine (H1.out _ HB1.out).mono ?_
    rintro e w2 ⟨rfl, hb1⟩
    have HB2 := Lib.hid (HB1.out.trans (hb1.mono HB1.out.size))
    clear hb1 HB1
    go_wp2_with fail
    go_at_call 14
    refine (HB.out _).mono ?_
    rintro e wz ⟨rfl, rfl⟩
    have HB3 := Lib.hid (HB2.out.alloc HB2.out.size (.cells #[.int .i64 (ns.length : Int), .int .i64 (ms.length : Int), .int .i64 (l.length : Int)] 3))
    clear HB2
    go_wp2_with fail
    refine (HKa.out _ HB3.out).mono ?_
    rintro e w4 ⟨rfl, hb1⟩
    have HB4 := Lib.hid (HB3.out.trans (hb1.mono HB3.out.size))
    clear hb1 HB3
    go_wp2_with fail
    refine (HKb.out _ HB4.out).mono ?_
    rintro e w5 ⟨rfl, hb1⟩
    have HB5 := Lib.hid (HB4.out.trans (hb1.mono HB4.out.size))
    clear hb1 HB4
    go_wp2_with ((with_reducible refine (HK.out _ HB5.out).mono ?_); rintro e w6 ⟨rfl, hb6⟩)
    go_ret
    exact ⟨rfl, HB5.out.trans (hb6.mono HB5.out.size)⟩
  have HKc := Lib.hid (HA true ⟨fun _ => ga, fun _ => rfl⟩)
  have hl16 := ga.len
  have HI : Hid (∀ W, Below w.heap.size w W → Calls Try.prog 21 #[.slice A0 ns.length c0, .slice A1 ms.length c1, .slice A2 l.length c2] W (Ret (.int .i64 (ruleV (ns.map fun N => saysB N l) (ms.map fun N => saysB N l))) W)) := fun W hW =>
    implCheckIP_any A0 A1 _ c0 _ c1 ns ms W rfl rfl (by omega) (by omega) (R0.out.below hW) (R1.out.below hW) gk0.1 gk1.1 A2 _ c2 l rfl M4.out (R2.out.below hW) ga
  have HO0 : Hid (∀ W, Below w.heap.size w W → Calls Try.prog 19 #[.slice A0 ns.length c0, .slice A2 l.length c2] W (SaysPost (ns.map fun N => saysB N l) W)) := fun W hW => ofNets_any A0 _ c0 ns W rfl (by omega) (R0.out.below hW) gk0.1 A2 _ c2 l rfl (R2.out.below hW) (by omega)
  have HO1 : Hid (∀ W, Below w.heap.size w W → Calls Try.prog 19 #[.slice A1 ms.length c1, .slice A2 l.length c2] W (SaysPost (ms.map fun N => saysB N l) W)) := fun W hW => ofNets_any A1 _ c1 ms W rfl (by omega) (R1.out.below hW) gk1.1 A2 _ c2 l rfl (R2.out.below hW) (by omega)
  have hX : (ns.map fun N => saysB N l).length ≤ 2147483647 := by rw [List.length_map]; omega
  have hY : (ms.map fun N => saysB N l).length ≤ 2147483647 := by rw [List.length_map]; omega
  generalize (ns.map fun N => saysB N l) = X at HI HO0 hX
  generalize (ms.map fun N => saysB N l) = Y at HI HO1 hY
  have HR : Hid (∀ C D e1 e2 W, Rd W C (ints X) → Rd W D (ints Y) → Calls Try.prog 22 #[.slice C X.length e1, .slice D Y.length e2] W (SameE (.int .i64 (ruleV X Y)) W)) := fun C D e1 e2 W h1 h2 => rule_any C D _ _ e1 e2 X Y W rfl rfl hX hY h1 h2
  generalize ruleV X Y = z at HI HR
  have HAn : Hid (∀ W, Calls Try.prog 20 #[.int .i64 z, .int .i64 z] W (SameE (.bool true) W)) := fun W => by
    have := answered_any z z W
    have e : answerB z z = true := by
      unfold answerB
      by_cases h1 : z = 1
      · rw [if_pos h1, h1]; rfl
      · rw [if_neg h1]
        by_cases h0 : z = 0
        · rw [if_pos h0, h0]; rfl
        · rw [if_neg h0]
    rwa [e] at this
  clear HK0 HK1 HA gk0 gk1 ga hl16 R0 R1 R2 M4 GN0 GN1
  go_enter Try.func7, Try.ntmps7
  go_wp2_with fail
  refine H0.out.mono ?_
  rintro e w1 ⟨rfl, hb1⟩
  have HB1 := Lib.hid hb1
  clear hb1
  go_wp2_with fail
  refine (H1.out _ HB1.out).mono ?_
  rintro e w2 ⟨rfl, hb1⟩
  have HB2 := Lib.hid (HB1.out.trans (hb1.mono HB1.out.size))
  clear hb1 HB1
  go_wp2_with fail
  go_at_call 14
  refine (HB.out _).mono ?_
  rintro e wz ⟨rfl, rfl⟩
  have HB3 := Lib.hid (HB2.out.alloc HB2.out.size (.cells #[.int .i64 (ns.length : Int), .int .i64 (ms.length : Int), .int .i64 (l.length : Int)] 3))
  clear HB2
  go_wp2_with fail
  refine (HKa.out _ HB3.out).mono ?_
  rintro e w4 ⟨rfl, hb1⟩
  have HB4 := Lib.hid (HB3.out.trans (hb1.mono HB3.out.size))
  clear hb1 HB3
  go_wp2_with fail
  refine (HKb.out _ HB4.out).mono ?_
  rintro e w5 ⟨rfl, hb1⟩
  have HB5 := Lib.hid (HB4.out.trans (hb1.mono HB4.out.size))
  clear hb1 HB4
  go_wp2_with fail
  refine (HKc.out _ HB5.out).mono ?_
  rintro e w6 ⟨rfl, hb1⟩
  have HB6 := Lib.hid (HB5.out.trans (hb1.mono HB5.out.size))
  clear hb1 HB5
  go_wp2_with fail
  refine (HI.out _ HB6.out).mono ?_
  rintro e w7 ⟨rfl, hb1⟩
  have HB7 := Lib.hid (HB6.out.trans (hb1.mono HB6.out.size))
  clear hb1 HB6
  go_wp2_with fail
  refine (HO0.out _ HB7.out).mono ?_
  rintro e w8 ⟨C, e1, rfl, hrd, hb8⟩
  have HB8 := Lib.hid (HB7.out.trans (hb8.mono HB7.out.size))
  have HR8 := Lib.hid hrd
  clear hb8 hrd HB7
  go_wp2_with fail
  refine (HO1.out _ HB8.out).mono ?_
  rintro e w9 ⟨D, e2, rfl, hrd, hb9⟩
  have HB9 := Lib.hid (HB8.out.trans (hb9.mono HB8.out.size))
  have HRu := Lib.hid (HR.out C D e1 e2 w9 (HR8.out.below hb9) hrd)
  clear hb9 hrd HB8 HR HR8
  go_wp2_with (first | ((with_reducible refine HRu.out.mono ?_); rintro e w10 ⟨rfl, rfl⟩) | ((with_reducible refine (HAn.out _).mono ?_); rintro e w11 ⟨rfl, rfl⟩))
  go_ret
  exact ⟨rfl, HB9.out⟩
set_option maxRecDepth 100000 in
set_option linter.unusedVariables false in
theorem fnCheckIP_lifted (os : Os) (started : os.Started) (H : Type) (enc : TypeId × Value → H) :
    ReturnsInHanded {} Try.checked os 7 .any (Rows.fnCheckIPSpec.pre6 enc Try.prog Try.f7 Rows.fnCheckIPRow.domain false) (Rows.fnCheckIPSpec.post enc Try.prog Try.f7 false true false false) := by
  refine returnsInHanded_of_change (C := Try.checked) own started (by kernel_rfl) Try.func7
    (ChangeSpec.witness6 (enc := enc) (C := Try.checked) false ⟨#[], #[.slice none 0 0, .slice none 0 0, .slice none 0 0], []⟩ 8 (by kernel_rfl) (by kernel_rfl) (by kernel_rfl) (by kernel_rfl)) ?_
  intro W base args ds gs before hval0 hW hcnd _
  have hval : ∀ (j : Nat) t v, Try.f7.params[j]? = some t → args[j]? = some v → Value.okWide Try.prog W .any base t v := hval0
  have hW' := hW
  obtain ⟨p, q, hA0, hV, rfl, hfz, hnd⟩ := hW
  have hA : DataW.TrodAll enc Try.prog W 0 (fun _ => true) true Try.f7.params.toList args.toList ds p := hA0
  rw [Try.params7] at hA hval
  obtain ⟨v0, vs0, d0, ds0, p0, q0, hargs, rfl, rfl, h0, r0⟩ := trodAll_cons hA
  obtain ⟨v1, vs1, d1, ds1, p1, q1, rfl, rfl, rfl, h1, r1⟩ := trodAll_cons r0
  obtain ⟨v2, vs2, d2, ds2, p2, q2, rfl, rfl, rfl, h2, r2⟩ := trodAll_cons r1
  obtain ⟨rfl, rfl, rfl⟩ := trodAll_nil r2
  obtain rfl : args = #[v0, v1, v2] := by cases args; simp_all
  obtain ⟨rfl, rfl⟩ := trodVars_none hV
  have k0 := h0
  have lt0 : ∀ x ∈ p0, x.block < W.heap.size := by obtain ⟨m, hm⟩ := k0; exact DataW.trod_lt m _ _ _ hm
  obtain ⟨A0, n0, c0, ns0, rfl, w0⟩ := opened_nets (hval 0 28 v0 rfl rfl) h0
  have k1 := h1
  have lt1 : ∀ x ∈ p1, x.block < W.heap.size := by obtain ⟨m, hm⟩ := k1; exact DataW.trod_lt m _ _ _ hm
  obtain ⟨A1, n1, c1, ns1, rfl, w1⟩ := opened_nets (hval 1 28 v1 rfl rfl) h1
  have k2 := h2
  have lt2 : ∀ x ∈ p2, x.block < W.heap.size := by obtain ⟨m, hm⟩ := k2; exact DataW.trod_lt m _ _ _ hm
  obtain ⟨A2, n2, c2, bs2, rfl, w2⟩ := opened_bytes (hval 2 22 v2 rfl rfl) h2
  clear hA0 hval0
  refine (fnCheckIP_walk (w := W) A0 n0 c0 ns0 w0 A1 n1 c1 ns1 w1 A2 n2 c2 bs2 w2).mono fun e W' ⟨he, bel⟩ => ?_
  subst he
  exact ⟨_, rfl, _, _, _, [], _, [], hW', trodAll_mk1 (shut_bool Try.underlying4 _), (trodAll_cons_mk (Below.trod laidOut (by kernel_rfl) (of_decide_eq_true (by kernel_rfl)) k0 bel lt0) (trodAll_cons_mk (Below.trod laidOut (by kernel_rfl) (of_decide_eq_true (by kernel_rfl)) k1 bel lt1) (trodAll_cons_mk (Below.trod laidOut (by kernel_rfl) (of_decide_eq_true (by kernel_rfl)) k2 bel lt2) trodAll_mk0))), rfl, bel.frame _, fun h => by cases h⟩
theorem fnCheckIP_facts : joinedFacts Try.prog 7 Try.f7 Rows.fnCheckIPSpec Rows.fnCheckIPRow = true :=
  facts_of rfl head_enter head_lifts head_make rfl rfl (by kernel_rfl) (by kernel_rfl) (by kernel_rfl) (by kernel_rfl) (by kernel_rfl)
theorem fnCheckIP_over : Rows.fnCheckIPRow.holds Try.pinned (OpenSpec.ofChange Rows.fnCheckIPSpec) :=
  OpenClaim.holds_of_wide 7 Try.f7 rfl rfl rfl rfl rfl rfl rfl ⟨rfl, rfl, rfl, rfl, rfl⟩ rfl rfl rfl rfl rfl (by kernel_rfl) Try.func7 fnCheckIP_facts
    (of_decide_eq_true (by kernel_rfl)) (by unfold Func.isWrapper; first | (rw [if_pos (by decide +kernel)]; kernel_rfl) | (rw [if_neg (by decide +kernel)]; exact ⟨rfl, rfl⟩))
    (fun os started H enc _ => fnCheckIP_lifted os started H enc)
theorem fnCheckIP_holds : Rows.FnCheckIPSaid := fnCheckIP_over
end Go.Proofs.Ytgaolfbbfdojjaa
