/-
  What rows of names are made to; walks: slices.Contains of numbers, ZZQueryDNS, impl.QueryDNS; the plain law of codes. No condition.
-/
import Derived.Test.YtdinnpjplgkffaaGreatDoorE6
namespace Go.Proofs.YtdinnpjplgkffaaGreatDoor
open Go.ChangeShapes Go.WideShapes Go.ChangeAt Go.RowKit

def askL (L : List ByteArray) (b : Bool) : Option Bool := if L = [] then none else some b
theorem ne_bytes {y : ByteArray} (h : y.size ≠ 0) : bytes y ≠ [] := fun e => h (by rw [← bytes_length, e]; rfl)
theorem makes_ask (L : List ByteArray) (hl : L.length ≤ 2147483647) (hL : TextsE L) (pm : Bool) (x : ByteArray) (hx : AskT x) (b : Bool) (hb : b = true ↔ MetD L x) : MakesN L pm x (askL L b) := fun A c W hr => by
  by_cases h0 : L = []
  · subst h0
    unfold askL
    rw [if_pos rfl]
    refine (newDNS_nil A c pm W).mono fun e w' h => ?_
    obtain ⟨rfl, rfl⟩ := h
    exact ⟨_, rfl, .inl ⟨rfl, rfl⟩, Below.refl _ _⟩
  · unfold askL
    rw [if_neg h0]
    have hsz : ∀ y ∈ L, y.size ≤ 2147483647 := fun y hy => by
      rcases hL y hy with e | e
      · omega
      · exact e.2
    by_cases he : ∃ y ∈ L, y.size = 0
    · exact (newDNS_all A _ c L pm W rfl hl hr he hsz).mono fun e w' h => h.askt hL hx hb
    · have hn : ∀ y ∈ L, NameBytes (bytes y) := fun y hy => ((hL y hy).resolve_left fun e => he ⟨y, hy, e⟩).1
      have hs : ∀ y ∈ L, IsS y := fun y hy => ⟨Nat.pos_of_ne_zero fun e => he ⟨y, hy, e⟩, hsz y hy⟩
      cases pm
      · exact (newDNS_excl A _ c L W rfl hl hr h0 hs hn).mono fun e w' h => h.askt hL hx hb
      · exact (newDNS_perm A _ c L W rfl hl hr h0 hs).mono fun e w' h => h.askt hL hx hb

theorem makes_names (L : List ByteArray) (hl : L.length ≤ 2147483647) (hL : NamesE L) (pm : Bool) (x : ByteArray) (hx : nameOk (bytes x) = true) (b : Bool) (hb : b = true ↔ MetD L x) : MakesN L pm x (askL L b) := makes_ask L hl hL.texts pm x (AskT.of hx) b hb
/-! ### NUMBERS IN A ROW -/
def IdxI (z : Int) (xs : List Int) (w : World) (e : Ending) (w' : World) : Prop := ∃ r : Int, e = .returned (.int .i64 r) ∧ (0 ≤ r ↔ z ∈ xs) ∧ w = w'
set_option maxHeartbeats 1000000 in
theorem idxI_any (A : Option Addr) (n c : Nat) (xs : List Int) (z : Int) (w : World) (hn : n = xs.length) (hl : xs.length ≤ 2147483647) (hr : Rd w A (ints xs)) :
    Calls Tryz.prog 20 #[.slice A n c, .int .i64 z] w (IdxI z xs w) := by
  subst hn
  have HR := Lib.hid hr
  clear hr
  go_enter Tryz.func20, Tryz.ntmps20
  go_wp2
  go_loopg [8] xs.length (fun kx s8 wr => w = wr ∧ ∃ k : Nat, k ≤ xs.length ∧ xs.length - k ≤ kx ∧ s8 = .int .i64 k ∧ Aside (∀ y ∈ xs.take k, y ≠ z))
  case atStart => exact ⟨rfl, 0, by omega, by omega, rfl, fun x hx => by simp at hx⟩
  case round =>
    obtain ⟨rfl, k, hk, hg, rfl, Q⟩ := hrel
    by_cases hlt : k < xs.length
    · obtain ⟨ad1, rfl, h1l, hc1⟩ := HR.out k _ (ints_get hlt)
      by_cases he : xs[k] = z
      · have F : Hid (IdxI z xs w (.returned (.int .i64 (k : Int))) w) := ⟨_, rfl, ⟨fun _ => by rw [← he]; exact List.getElem_mem hlt, fun _ => by omega⟩, rfl⟩
        have e1 : (z == xs[k]) = true := by rw [he, beq_self_eq_true]
        generalize xs[k] = y at hc1 e1
        clear Q he
        go_wp2
        go_ret
        exact F.out
      · have Q2 : Aside (∀ y ∈ xs.take (k + 1), y ≠ z) := fun y hy => by
          rw [List.take_succ_eq_append_getElem hlt] at hy
          rcases List.mem_append.1 hy with h | h
          · exact Q.out y h
          · simp at h; rw [h]; exact he
        have e1 : (z == xs[k]) = false := by
          rw [beq_eq_false_iff_ne]
          exact fun e => he e.symm
        generalize xs[k] = y at hc1 e1
        clear Q he
        go_wp2
        go_roundg (xs.length - (k + 1))
        case measure => omega
        case rel => exact ⟨rfl, k + 1, by omega, by omega, by go_num, Q2⟩
    · have F : Hid (IdxI z xs w (.returned (.int .i64 (-1))) w) := ⟨_, rfl, ⟨fun h => absurd h (by omega), fun h => by
        have := Q.out z (by rw [List.take_of_length_le (by omega)]; exact h)
        exact absurd rfl this⟩, rfl⟩
      clear Q
      go_wp2
      go_ret
      exact F.out
set_option maxHeartbeats 1000000 in
theorem containsI_any (A : Option Addr) (n c : Nat) (xs : List Int) (z : Int) (w : World) (hn : n = xs.length) (hl : xs.length ≤ 2147483647) (hr : Rd w A (ints xs)) (b : Bool) (hb : b = true ↔ z ∈ xs) :
    Calls Tryz.prog 10 #[.slice A n c, .int .i64 z] w (SameE (.bool b) w) := by
  have HC := Lib.hid (idxI_any A n c xs z w hn hl hr)
  clear hn hr
  go_enter Tryz.func10, Tryz.ntmps10
  go_wp2_with fail
  refine HC.out.mono ?_
  rintro e w1 ⟨r, rfl, hr, rfl⟩
  have e1 : decide (0 ≤ r) = b := by rw [Bool.eq_iff_iff, hb, decide_eq_true_eq, hr]
  clear hb hr HC
  go_wp2
  go_ret
  exact ⟨rfl, rfl⟩

/-! ### THE QUERY -/
theorem hasSuf_dec {y x : ByteArray} : dnsV (bytes y) (bytes x) = 0 ∨ dnsV (bytes y) (bytes x) = 1 ∨ dnsV (bytes y) (bytes x) = 2 := by
  unfold dnsV; split
  · simp
  · split
    · simp
    · split <;> simp
theorem saysD_two {y x : ByteArray} : saysD y x = 2 ↔ y.size ≠ 0 ∧ nameOk (bytes y) = false := by
  unfold saysD dnsV
  by_cases h0 : bytes y = []
  · rw [if_pos h0]
    have : y.size = 0 := by rw [← bytes_length, h0]; rfl
    simp [this]
  · rw [if_neg h0]
    have : y.size ≠ 0 := fun e => h0 (List.eq_nil_of_length_eq_zero (by rw [bytes_length]; exact e))
    cases h : nameOk (bytes y)
    · simp [this]
    · simp
      split <;> simp
theorem saysD_one {y x : ByteArray} (hy : y.size = 0 ∨ nameOk (bytes y) = true) (hx : nameOk (bytes x) = true) : saysD y x = 1 ↔ y.size = 0 ∨ hasSufL (bytes y) (bytes x) = true := by
  by_cases h0 : y.size = 0
  · have hb : bytes y = [] := List.eq_nil_of_length_eq_zero (by rw [bytes_length]; exact h0)
    unfold saysD dnsV
    rw [if_pos hb]
    simp [h0]
  · have hn := hy.resolve_left h0
    unfold saysD
    rw [dnsV_ok hn hx]
    by_cases h : hasSufL (bytes y) (bytes x) = true
    · simp [h]
    · simp [h, h0]
theorem namesE_of {L : List ByteArray} {x : ByteArray} (h : ¬ (2 : Int) ∈ L.map fun y => saysD y x) : NamesE L := fun y hy => by
  by_cases h0 : y.size = 0
  · exact .inl h0
  · cases hn : nameOk (bytes y)
    · exact absurd (show (2 : Int) ∈ L.map fun y => saysD y x from List.mem_map.2 ⟨y, hy, saysD_two.2 ⟨h0, hn⟩⟩) h
    · exact .inr rfl
theorem namesE_two {L : List ByteArray} {x : ByteArray} (h : NamesE L) : ¬ (2 : Int) ∈ L.map fun y => saysD y x := fun h2 => by
  obtain ⟨y, hy, e⟩ := List.mem_map.1 h2
  obtain ⟨h0, hn⟩ := saysD_two.1 e
  rcases h y hy with e | e
  · exact h0 e
  · rw [hn] at e; cases e
theorem fnd_metD {L : List ByteArray} {x : ByteArray} (hL : NamesE L) (hx : nameOk (bytes x) = true) {b : Bool} (hb : b = true ↔ MetD L x) : fnd (L.map fun y => saysD y x) = if b = true then 1 else 0 := by
  have h1 : (1 : Int) ∈ (L.map fun y => saysD y x) ↔ b = true := by
    rw [hb, List.mem_map]
    exact ⟨fun ⟨y, hy, e⟩ => ⟨y, hy, (saysD_one (hL y hy) hx).1 e⟩, fun ⟨y, hy, e⟩ => ⟨y, hy, (saysD_one (hL y hy) hx).2 e⟩⟩
  unfold fnd
  rw [if_neg (namesE_two hL)]
  by_cases h : b = true
  · rw [if_pos (h1.2 h), if_pos h]
  · rw [if_neg (fun e => h (h1.1 e)), if_neg h]
theorem refB_ruleD {L1 L2 : List ByteArray} {x : ByteArray} (hL1 : NamesE L1) (hL2 : NamesE L2) (hx : nameOk (bytes x) = true) {b1 b2 : Bool} (hb1 : b1 = true ↔ MetD L1 x) (hb2 : b2 = true ↔ MetD L2 x) :
    ruleV (L1.map fun y => saysD y x) (L2.map fun y => saysD y x) = codeI (refB (askL L1 b1) (askL L2 b2)) := by
  have e2 : L2 = [] → b2 = false := fun e => by
    cases b2
    · rfl
    · obtain ⟨y, hy, -⟩ := hb2.1 rfl
      rw [e] at hy; cases hy
  unfold ruleV refB askL codeI
  simp only [fnd_metD hL1 hx hb1, fnd_metD hL2 hx hb2, List.map_eq_nil_iff]
  by_cases g1 : L1 = []
  · rw [if_pos g1, if_pos g1]
    by_cases g2 : L2 = []
    · rw [e2 g2, if_pos g2]; decide
    · rw [if_neg g2]; cases b2 <;> decide
  · rw [if_neg g1, if_neg g1]
    by_cases g2 : L2 = []
    · rw [e2 g2, if_pos g2]; cases b1 <;> decide
    · rw [if_neg g2]; cases b1 <;> cases b2 <;> decide
theorem exB (p : Prop) : ∃ b : Bool, b = true ↔ p := by
  by_cases h : p
  · exact ⟨true, by simp [h]⟩
  · exact ⟨false, by simp [h]⟩
end Go.Proofs.YtdinnpjplgkffaaGreatDoor
