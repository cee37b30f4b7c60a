/-
  Walks: check at an address, ZZCheckIP, impl.CheckIP.
-/
import Derived.Test.YtgaolfbbfdojjaaN17
namespace Go.Proofs.Ytgaolfbbfdojjaa
open Go.ChangeShapes Go.WideShapes Go.ChangeAt Go.RowKit

set_option maxRecDepth 100000 in
set_option maxHeartbeats 4000000 in
theorem check_any (g b : Nat) (P E : Value) (A : Option Addr) (n c : Nat) (p q : Option Bool) (w : World) (c0 : w.cell? ⟨g, 0, none⟩ = some (.string { data := #[73, 80, 32, 97, 100, 100, 114, 101, 115, 115] })) (c1 : w.cell? ⟨g, 1, none⟩ = some P) (c2 : w.cell? ⟨g, 2, none⟩ = some E) (cb : w.cell? ⟨b, 0, none⟩ = some (.slice A n c))
    (hP : AskQ w P (.slice A n c) p) (hE : AskQ w E (.slice A n c) q) (r : Bool) (hr : refB p q = r) :
    Calls Try.prog 39 #[.pointer (some ⟨g, 0, none⟩), .slice none 0 0, .slice none 0 0, .slice none 0 0, .slice (some ⟨b, 0, none⟩) 1 1] w (ChkPost { data := #[73, 80, 32, 97, 100, 100, 114, 101, 115, 115] } r w) := by
  have HC := Lib.hid (checkN_any { data := #[73, 80, 32, 97, 100, 100, 114, 101, 115, 115] } (by decide) P E (.slice A n c) p q w hP hE r hr)
  clear hP hE hr
  go_enter Try.func39, Try.ntmps39
  go_wp2
  refine wp_loop_rounds 2 ?_
  rw [rounds_succ]
  go_wp2_with fail
  refine HC.out.mono ?_
  rintro e w1 ⟨hb1, h⟩
  rcases h with ⟨rfl, rfl⟩ | ⟨rfl, v, s, rfl, he, hs⟩
  · have F : Hid (ChkPost { data := #[73, 80, 32, 97, 100, 100, 114, 101, 115, 115] } false w (.returned .nilIface) w1) := ⟨hb1, .inl ⟨rfl, rfl⟩⟩
    clear hb1 HC
    go_wp2
    rw [rounds_succ]
    go_wp2
    refine wp_loop_rounds 1 ?_
    rw [rounds_succ]
    go_wp2
    refine wp_loop_rounds 1 ?_
    rw [rounds_succ]
    go_wp2
    refine wp_loop_rounds 1 ?_
    rw [rounds_succ]
    go_wp2
    go_ret
    exact F.out
  · have F : Hid (ChkPost { data := #[73, 80, 32, 97, 100, 100, 114, 101, 115, 115] } true w (.returned v) w1) := ⟨hb1, .inr ⟨rfl, v, s, rfl, he, hs⟩⟩
    obtain ⟨gg, rfl, -⟩ := he
    clear hb1 HC hs
    go_wp2
    go_ret
    exact F.out
/-- What a set of networks says of an address. -/
def askO (ps : List (Nat × NetA)) (b : Bool) : Option Bool := if ps = [] then none else some b
theorem newIPq_any (B : Option Addr) (m d : Nat) (ps : List (Nat × NetA)) (w : World) (hm : m = ps.length) (hl : ps.length ≤ 2147483647) (hrp : Rd w B (ps.map encP)) (hs : ∀ p ∈ ps, IsN w p)
    (A : Option Addr) (n c : Nat) (l : List UInt8) (hn : n = l.length) (hc : n ≤ c) (hr : Rd w A (u8s l)) (ha : AddrOk l) (b : Bool) (hb : b = true ↔ ∃ p ∈ ps, InN p.2.ad p.2.ms l) :
    Calls Try.prog 37 #[.slice B m d] w fun e w' => ∃ P, e = .returned P ∧ AskQ w' P (.slice A n c) (askO ps b) ∧ Below w.heap.size w w' := by
  by_cases h0 : ps = []
  · obtain rfl : m = 0 := by rw [hm, h0]; rfl
    refine (newIP_nil B d w).mono fun e w' h => ?_
    obtain ⟨rfl, rfl⟩ := h
    exact ⟨_, rfl, .inl ⟨by unfold askO; rw [if_pos h0], rfl⟩, Below.refl _ _⟩
  · refine (newIP_any B m d ps w hm hl h0 hrp hs).mono fun e w' h => ?_
    obtain ⟨g, s8, s9, rfl, c8, c9, hT⟩ := h
    refine ⟨_, rfl, .inr ⟨g, b, by unfold askO; rw [if_neg h0], rfl, fun W hW => ?_⟩, hT.old⟩
    exact query_any g s8 s9 w W ps ((hW.cell (p := ⟨g, 0, none⟩) (World.block_lt_of_cell? _ _ c8)).trans c8) ((hW.cell (p := ⟨g, 1, none⟩) (World.block_lt_of_cell? _ _ c9)).trans c9) (hT.next hW) A n c l hn hc hr ha b hb
theorem AskQ.form {w : World} {P arg : Value} {p : Option Bool} (h : AskQ w P arg p) : P = .nilIface ∨ ∃ g, P = .iface 87 (.pointer (some ⟨g, 0, none⟩)) := by
  rcases h with ⟨-, e⟩ | ⟨g, _, -, e, -⟩
  · exact .inl e
  · exact .inr ⟨g, e⟩
theorem two_cells (W : World) (C : Array Value) (T T2 : TypeId) (v : Value) : (∀ j, ((W.alloc (.cells C T)).alloc (.cells #[v] T2)).cell? ⟨W.heap.size, j, none⟩ = C[j]?) ∧ ((W.alloc (.cells C T)).alloc (.cells #[v] T2)).cell? ⟨W.heap.size + 1, 0, none⟩ = some v ∧ Below W.heap.size W ((W.alloc (.cells C T)).alloc (.cells #[v] T2)) := by
  have h1 : (W.alloc (.cells C T)).heap.size = W.heap.size + 1 := by simp
  refine ⟨fun j => ?_, ?_, (Below.one _ _).trans ((Below.one _ _).mono (by simp))⟩
  · rw [(Below.one (W.alloc (.cells C T)) (.cells #[v] T2)).cell (p := ⟨W.heap.size, j, none⟩) (by simp), blk_cell (blk_new W _)]
  · rw [← h1, blk_cell (blk_new _ _)]; rfl
set_option maxRecDepth 100000 in
set_option maxHeartbeats 4000000 in
theorem zzCheckIP_any (B D : Option Addr) (m1 d1 m2 d2 : Nat) (ps qs : List (Nat × NetA)) (w : World) (hm1 : m1 = ps.length) (hm2 : m2 = qs.length) (hl1 : ps.length ≤ 2147483647) (hl2 : qs.length ≤ 2147483647) (hr1 : Rd w B (ps.map encP)) (hr2 : Rd w D (qs.map encP)) (hs1 : ∀ p ∈ ps, IsN w p) (hs2 : ∀ p ∈ qs, IsN w p)
    (A : Option Addr) (n c : Nat) (l : List UInt8) (hn : n = l.length) (hc : n ≤ c) (hr : Rd w A (u8s l)) (ha : AddrOk l) (b1 b2 : Bool) (hb1 : b1 = true ↔ ∃ p ∈ ps, InN p.2.ad p.2.ms l) (hb2 : b2 = true ↔ ∃ p ∈ qs, InN p.2.ad p.2.ms l) (r : Bool) (hrf : refB (askO ps b1) (askO qs b2) = r) :
    Calls Try.prog 34 #[.slice B m1 d1, .slice D m2 d2, .slice A n c] w (ChkPost { data := #[73, 80, 32, 97, 100, 100, 114, 101, 115, 115] } r w) := by
  subst hn
  have H1 := Lib.hid (newIPq_any B m1 d1 ps w hm1 hl1 hr1 hs1 A _ c l rfl hc hr ha b1 hb1)
  have H2 : Hid (∀ W, Below w.heap.size w W → Calls Try.prog 37 #[.slice D m2 d2] W fun e w' => ∃ P, e = .returned P ∧ AskQ w' P (.slice A l.length c) (askO qs b2) ∧ Below W.heap.size W w') := fun W hW =>
    newIPq_any D m2 d2 qs W hm2 hl2 (hr2.below hW) (fun p hp => ⟨(hs2 p hp).1.below hW, (hs2 p hp).2⟩) A _ c l rfl hc (hr.below hW) ha b2 hb2
  have HC : Hid (∀ (W : World) (C : Array Value) (T T2 : TypeId) (P E : Value), C[0]? = some (.string { data := #[73, 80, 32, 97, 100, 100, 114, 101, 115, 115] }) → C[1]? = some P → C[2]? = some E → AskQ W P (.slice A l.length c) (askO ps b1) → AskQ W E (.slice A l.length c) (askO qs b2) →
      Calls Try.prog 39 #[.pointer (some ⟨W.heap.size, 0, none⟩), .slice none 0 0, .slice none 0 0, .slice none 0 0, .slice (some ⟨W.heap.size + 1, 0, none⟩) 1 1] ((W.alloc (.cells C T)).alloc (.cells #[.slice A l.length c] T2)) (ChkPost { data := #[73, 80, 32, 97, 100, 100, 114, 101, 115, 115] } r W)) := fun W C T T2 P E e0 e1 e2 hP hE => by
    obtain ⟨q1, q2, q3⟩ := two_cells W C T T2 (.slice A l.length c)
    refine (check_any W.heap.size (W.heap.size + 1) P E A l.length c _ _ _ ((q1 0).trans e0) ((q1 1).trans e1) ((q1 2).trans e2) q2 (hP.next q3) (hE.next q3) r hrf).mono fun e w' h => ?_
    exact ⟨q3.trans (h.1.mono q3.size), h.2⟩
  clear hm1 hm2 hl1 hl2 hr1 hr2 hs1 hs2 hc hr ha hb1 hb2 hrf
  go_enter Try.func34, Try.ntmps34
  go_wp2_with fail
  refine H1.out.mono ?_
  rintro e w1 ⟨P, rfl, hP, hw1⟩
  have HP := Lib.hid hP
  have HW1 := Lib.hid hw1
  clear hP hw1 H1
  go_wp2_with fail
  refine (H2.out w1 HW1.out).mono ?_
  rintro e w2 ⟨E, rfl, hE, hw2⟩
  have HE := Lib.hid hE
  have HP2 := Lib.hid (HP.out.next hw2)
  have HW2 := Lib.hid (HW1.out.trans (hw2.mono HW1.out.size))
  clear hE hw2 HP HW1 H2
  have f1 := HP2.out.form
  have f2 := HE.out.form
  rcases f1 with rfl | ⟨g1, rfl⟩
  all_goals
    rcases f2 with rfl | ⟨g2, rfl⟩
    all_goals
      go_wp2_with fail
      refine (HC.out w2 _ _ _ _ _ rfl rfl rfl HP2.out HE.out).mono ?_
      rintro e w3 ⟨hw3, h⟩
      have F : Hid (ChkPost { data := #[73, 80, 32, 97, 100, 100, 114, 101, 115, 115] } r w e w3) := ⟨HW2.out.trans (hw3.mono HW2.out.size), h⟩
      rcases h with ⟨-, rfl⟩ | ⟨-, v, s, rfl, -, -⟩
      all_goals
        clear hw3 HC HP2 HE
        go_wp2
        go_ret
        exact F.out
theorem fnd_met {ns : List NetA} (hg : ∀ N ∈ ns, NetGood N.ad N.ms) (l : List UInt8) : (fnd (ns.map fun N => saysB N l) = 1) ↔ Met ns l := by
  have h1 : (1 : Int) ∈ (ns.map fun N => saysB N l) ↔ Met ns l := by
    rw [List.mem_map]
    unfold Met
    constructor
    · rintro ⟨N, hN, e⟩
      refine ⟨N, hN, (inB_iff (hg N hN).2.1 l).1 ?_⟩
      unfold saysB yesI at e
      cases h : inB N.ad N.ms l
      · rw [h] at e; simp at e
      · rfl
    · rintro ⟨N, hN, e⟩
      refine ⟨N, hN, ?_⟩
      unfold saysB yesI
      rw [(inB_iff (hg N hN).2.1 l).2 e]; rfl
  have h2 : ¬ (2 : Int) ∈ (ns.map fun N => saysB N l) := by
    rw [List.mem_map]
    rintro ⟨N, hN, e⟩
    unfold saysB yesI at e
    split at e <;> omega
  unfold fnd
  rw [if_neg h2]
  constructor
  · intro h
    by_cases h3 : (1 : Int) ∈ (ns.map fun N => saysB N l)
    · exact h1.1 h3
    · rw [if_neg h3] at h; omega
  · intro h
    rw [if_pos (h1.2 h)]
theorem saysB_two (ns : List NetA) (l : List UInt8) : ¬ (2 : Int) ∈ (ns.map fun N => saysB N l) := by
  rw [List.mem_map]
  rintro ⟨N, hN, e⟩
  unfold saysB yesI at e
  split at e <;> omega
theorem refB_rule {ps qs : List (Nat × NetA)} {ns ms : List NetA} {l : List UInt8} (hp : ∀ N ∈ ns, NetGood N.ad N.ms) (hq : ∀ N ∈ ms, NetGood N.ad N.ms) (h1 : ps.map (fun p => keyA p.2) = ns.map keyA) (h2 : qs.map (fun p => keyA p.2) = ms.map keyA) {b1 b2 : Bool} (hb1 : b1 = true ↔ Met ns l) (hb2 : b2 = true ↔ Met ms l) :
    ruleV (ns.map fun N => saysB N l) (ms.map fun N => saysB N l) = if refB (askO ps b1) (askO qs b2) = true then 1 else 0 := by
  have e1 : (ns.map fun N => saysB N l) = [] ↔ ps = [] := by
    have := congrArg List.length h1
    simp at this
    rw [List.map_eq_nil_iff, ← List.length_eq_zero_iff, ← List.length_eq_zero_iff, this]
  have e2 : qs = [] → b2 = false := fun e => by
    have := congrArg List.length h2
    rw [e] at this
    simp at this
    cases b2
    · rfl
    · obtain ⟨N, hN, -⟩ := hb2.1 rfl
      rw [List.eq_nil_of_length_eq_zero this.symm] at hN; cases hN
  have f1 : fnd (ns.map fun N => saysB N l) = if b1 = true then 1 else 0 := by
    have := fnd_met hp l
    cases hb : b1
    · have h0 : ¬ fnd (ns.map fun N => saysB N l) = 1 := fun e => by have := hb1.2 (this.1 e); rw [hb] at this; cases this
      have h2 : ¬ (2 : Int) ∈ (ns.map fun N => saysB N l) := saysB_two ns l
      unfold fnd at h0 ⊢
      by_cases h3 : (1 : Int) ∈ (ns.map fun N => saysB N l)
      · rw [if_pos h3] at h0; exact absurd rfl h0
      · rw [if_neg h3, if_neg h2]; rfl
    · exact this.2 (hb1.1 hb)
  have f2 : fnd (ms.map fun N => saysB N l) = if b2 = true then 1 else 0 := by
    have := fnd_met hq l
    cases hb : b2
    · have h0 : ¬ fnd (ms.map fun N => saysB N l) = 1 := fun e => by have := hb2.2 (this.1 e); rw [hb] at this; cases this
      have h2 : ¬ (2 : Int) ∈ (ms.map fun N => saysB N l) := saysB_two ms l
      unfold fnd at h0 ⊢
      by_cases h3 : (1 : Int) ∈ (ms.map fun N => saysB N l)
      · rw [if_pos h3] at h0; exact absurd rfl h0
      · rw [if_neg h3, if_neg h2]; rfl
    · exact this.2 (hb2.1 hb)
  unfold ruleV refB askO
  simp only [f1, f2]
  by_cases g1 : ps = []
  · rw [if_pos (e1.2 g1), if_pos g1]
    by_cases g2 : qs = []
    · rw [e2 g2, if_pos g2]; decide
    · rw [if_neg g2]; cases b2 <;> decide
  · rw [if_neg (fun e => g1 (e1.1 e)), if_neg g1]
    by_cases g2 : qs = []
    · rw [e2 g2, if_pos g2]; cases b1 <;> decide
    · rw [if_neg g2]; cases b1 <;> cases b2 <;> decide
end Go.Proofs.Ytgaolfbbfdojjaa
