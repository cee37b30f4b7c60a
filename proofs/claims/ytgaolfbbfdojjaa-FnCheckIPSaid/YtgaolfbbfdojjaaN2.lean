/-
  Walks: spec.ones, spec.last, spec.IP. Rows of bytes.
-/
import Derived.Test.YtgaolfbbfdojjaaN1
import Derived.Laws.BitsAllLaws
namespace Go.Proofs.Ytgaolfbbfdojjaa
open Go.ChangeShapes Go.WideShapes Go.ChangeAt Go.RowKit

/-- The i-th bit, the first byte's highest first. -/
def bitB (l : List UInt8) (i : Nat) : Bool := (l.getD (i / 8) 0).toNat.testBit (7 - i % 8)
/-- n ones and then noughts. -/
def MaskN (l : List UInt8) (n : Nat) : Prop := n ≤ 8 * l.length ∧ ∀ i, i < 8 * l.length → bitB l i = decide (i < n)
theorem bit_is (c : UInt8) (j : Nat) : (bits BinOp.and IntKind.u8 ((c.toNat : Int) / 2 ^ j) 1 == 1) = c.toNat.testBit j := by
  have hc := c.toNat_lt
  have hd : c.toNat / 2 ^ j < 256 := Nat.lt_of_le_of_lt (Nat.div_le_self _ _) hc
  have e : ((c.toNat : Int) / 2 ^ j) = ((c.toNat / 2 ^ j : Nat) : Int) := by
    rw [Int.natCast_ediv]; congr 1
  rw [e]
  have h1 := u8_and_nat (c.toNat / 2 ^ j) 1 hd (by omega)
  rw [show ((1 : Nat) : Int) = 1 from rfl] at h1
  rw [h1, Nat.and_one_is_mod, Bool.eq_iff_iff, beq_iff_eq, Nat.testBit_eq_decide_div_mod_eq, decide_eq_true_eq]
  omega
theorem bitB_at {l : List UInt8} {k : Nat} (h : k / 8 < l.length) : bitB l k = (l[k / 8]'h).toNat.testBit (7 - k % 8) := by
  unfold bitB
  rw [List.getD, List.getElem?_eq_getElem h]; rfl
def OnesPost (l : List UInt8) (w : World) (e : Ending) (w' : World) : Prop := w = w' ∧ ((∃ n : Nat, e = .returned (.tuple #[.int .i64 n, .bool true]) ∧ MaskN l n) ∨ (e = .returned (.tuple #[.int .i64 0, .bool false]) ∧ ∀ n, ¬ MaskN l n))
set_option maxHeartbeats 1000000 in
theorem ones_any (A : Option Addr) (n c : Nat) (l : List UInt8) (w : World) (hn : n = l.length) (hl : n ≤ 2147483647) (hr : Rd w A (u8s l)) :
    Calls Try.prog 23 #[.slice A n c] w (OnesPost l w) := by
  subst hn
  have HR := Lib.hid hr
  clear hr
  go_enter Try.func23, Try.ntmps23
  go_wp2
  go_loopg [4, 9] (8 * l.length) (fun kx s4 i wr => w = wr ∧ ∃ (k m : Nat), k ≤ 8 * l.length ∧ 8 * l.length - k ≤ kx ∧ i = .int .i64 k ∧ s4 = .int .i64 m ∧ m ≤ k ∧ Aside (∀ j, j < k → bitB l j = decide (j < m)))
  case atStart => exact ⟨rfl, 0, 0, by omega, by omega, rfl, rfl, by omega, fun j h => by omega⟩
  case round =>
    obtain ⟨rfl, k, m, hk, hg, rfl, rfl, hm, Q⟩ := hrel
    by_cases hlt : k < 8 * l.length
    · have hk8 : k / 8 < l.length := by omega
      obtain ⟨ad, rfl, hc⟩ := HR.out.byte hk8
      have hx := (l[k / 8]'hk8).toNat_lt
      have hb := bit_is (l[k / 8]'hk8) (7 - k % 8)
      rw [← bitB_at hk8] at hb
      cases hv : bitB l k
      · rw [hv] at hb
        have Q2 : Aside (∀ j, j < k + 1 → bitB l j = decide (j < m)) := fun j hj => by
          by_cases e : j < k
          · exact Q.out j e
          · have : j = k := by omega
            subst this
            rw [hv]
            exact (decide_eq_false (by omega)).symm
        clear hv Q hx
        go_wp2
        go_roundg (8 * l.length - (k + 1))
        case measure => omega
        case rel => exact ⟨rfl, k + 1, m, by omega, by omega, by go_num, rfl, by omega, Q2⟩
      · rw [hv] at hb
        by_cases hmk : m = k
        · have Q2 : Aside (∀ j, j < k + 1 → bitB l j = decide (j < m + 1)) := fun j hj => by
            by_cases e : j < k
            · rw [Q.out j e]
              rw [decide_eq_true (by omega), decide_eq_true (by omega)]
            · have : j = k := by omega
              subst this
              rw [hv]
              exact (decide_eq_true (by omega)).symm
          have h1 : ((m : Int) == (k : Int)) = true := by rw [beq_iff_eq]; omega
          have h2 : ((m : Int) != (k : Int)) = false := by rw [bne_eq_false_iff_eq]; omega
          have hmk' : m + 1 ≤ k + 1 := by omega
          clear hmk hv Q hx
          go_wp2
          go_roundg (8 * l.length - (k + 1))
          case measure => omega
          case rel => exact ⟨rfl, k + 1, m + 1, by omega, by omega, by go_num, by go_num, hmk', Q2⟩
        · have F : Hid (∀ n, ¬ MaskN l n) := fun n hn => by
            have hbk := hn.2 k hlt
            rw [hv] at hbk
            have hkn : k < n := of_decide_eq_true hbk.symm
            have hbm := hn.2 m (by omega)
            rw [Q.out m (by omega), decide_eq_false (by omega), decide_eq_true (by omega)] at hbm
            cases hbm
          have h1 : ((m : Int) == (k : Int)) = false := by rw [beq_eq_false_iff_ne]; omega
          have h2 : ((m : Int) != (k : Int)) = true := by rw [bne_iff_ne]; omega
          clear hmk hv Q hx
          go_wp2
          go_ret2
          exact ⟨rfl, .inr ⟨rfl, F.out⟩⟩
    · have F : Hid (MaskN l m) := ⟨by omega, fun i hi => Q.out i (by omega)⟩
      clear Q
      go_wp2
      go_ret2
      exact ⟨rfl, .inl ⟨m, rfl, F.out⟩⟩

/-- Whether an address lies in a network. -/
def InN (ad mk ip : List UInt8) : Prop := ip.length = ad.length ∧ ∀ i (h : i < ip.length) (h1 : i < ad.length) (h2 : i < mk.length), ip[i] &&& mk[i] = ad[i]
theorem and_is (x y : UInt8) : bits BinOp.and IntKind.u8 (x.toNat : Int) (y.toNat : Int) = ((x &&& y).toNat : Int) := by
  rw [u8_and_nat _ _ x.toNat_lt y.toNat_lt, UInt8.toNat_and]
/-- 1 for yes. -/
def yesI (b : Bool) : Int := if b = true then 1 else 0
set_option maxHeartbeats 1000000 in
theorem ipIn_any (N : NetA) (A : Option Addr) (n c : Nat) (l : List UInt8) (w : World) (hn : n = l.length) (hl : n ≤ 2147483647) (hN : NetR w N) (hal : N.ad.length ≤ 2147483647) (hml : N.ms.length ≤ 2147483647) (hm : N.ms.length = N.ad.length) (hr : Rd w A (u8s l)) (b : Bool) (hb : b = true ↔ InN N.ad N.ms l) :
    Calls Try.prog 28 #[netV N, .slice A n c] w (Ret (.int .i64 (yesI b)) w) := by
  subst hn
  obtain ⟨B, bc, M, mc, ad, mk⟩ := N
  unfold netV
  obtain ⟨hB, hM, -⟩ := hN
  simp only at *
  by_cases hne : l.length = ad.length
  rotate_left
  · have F : Hid (b = false) := by
      cases b
      · rfl
      · exact absurd (hb.1 rfl).1 hne
    have h1 : ((l.length : Int) == (ad.length : Int)) = false := by rw [beq_eq_false_iff_ne]; omega
    have h2 : ((l.length : Int) != (ad.length : Int)) = true := by rw [bne_iff_ne]; omega
    clear hb hne hr hB hM hm
    go_enter Try.func28, Try.ntmps28
    go_wp2
    go_ret
    exact ⟨ret_int (by rw [F.out]; rfl), Below.one _ _⟩
  have h1 : ((l.length : Int) == (ad.length : Int)) = true := by rw [beq_iff_eq]; omega
  have h2 : ((l.length : Int) != (ad.length : Int)) = false := by rw [bne_eq_false_iff_eq]; omega
  have HB := Lib.hid hb
  have HRl := Lib.hid (hr.below (Below.one w (.cells #[.slice B ad.length bc, .slice M mk.length mc] 24)))
  have HRb := Lib.hid (hB.below (Below.one w (.cells #[.slice B ad.length bc, .slice M mk.length mc] 24)))
  have HRm := Lib.hid (hM.below (Below.one w (.cells #[.slice B ad.length bc, .slice M mk.length mc] 24)))
  have HE := Lib.hid hne
  have HE2 := Lib.hid hm
  clear hb hne hr hB hM hm
  have C0 : Aside (Below (w.alloc (.cells #[.slice B ad.length bc, .slice M mk.length mc] 24)).heap.size (w.alloc (.cells #[.slice B ad.length bc, .slice M mk.length mc] 24)) (w.alloc (.cells #[.slice B ad.length bc, .slice M mk.length mc] 24))) := Below.refl _ _
  go_enter Try.func28, Try.ntmps28
  go_wp2
  go_loopg [15] l.length (fun kx i wr => ∃ k : Nat, k ≤ l.length ∧ l.length - k ≤ kx ∧ i = .int .i64 k ∧ Aside (∀ j (h : j < l.length) (h1 : j < ad.length) (h2 : j < mk.length), j < k → l[j] &&& mk[j] = ad[j]) ∧ Aside (Below (w.alloc (.cells #[.slice B ad.length bc, .slice M mk.length mc] 24)).heap.size (w.alloc (.cells #[.slice B ad.length bc, .slice M mk.length mc] 24)) wr))
  case atStart => exact ⟨0, by omega, by omega, rfl, fun j h h1 h2 h' => by omega, C0⟩
  case round =>
    clear C0
    obtain ⟨k, hk, hg, rfl, Q, HW⟩ := hrel
    have hblk : wr.heap[w.heap.size]? = some (.cells #[.slice B ad.length bc, .slice M mk.length mc] 24 (0, 0)) := (HW.out.block _ (by simp)).trans (blk_new _ _)
    have c0 : wr.cell? ⟨w.heap.size, 0, none⟩ = some (.slice B ad.length bc) := by rw [blk_cell hblk]; rfl
    have c1 : wr.cell? ⟨w.heap.size, 1, none⟩ = some (.slice M mk.length mc) := by rw [blk_cell hblk]; rfl
    have HBW := Lib.hid (show Below w.heap.size w wr from (Below.one w _).trans (HW.out.mono (by simp)))
    clear hblk
    by_cases hlt : k < l.length
    · have ka : k < ad.length := by have := HE.out; omega
      have km : k < mk.length := by have := HE.out; have := HE2.out; omega
      obtain ⟨pA, rfl, cA⟩ := (HRl.out.below HW.out).byte hlt
      obtain ⟨pB, rfl, cB⟩ := (HRb.out.below HW.out).byte ka
      obtain ⟨pM, rfl, cM⟩ := (HRm.out.below HW.out).byte km
      have ka' : (k : Int) < (ad.length : Int) := by omega
      have km' : (k : Int) < (mk.length : Int) := by omega
      have hb0 := and_is (l[k]'hlt) (mk[k]'km)
      by_cases he : l[k]'hlt &&& mk[k]'km = ad[k]'ka
      · have Q2 : Aside (∀ j (h : j < l.length) (h1 : j < ad.length) (h2 : j < mk.length), j < k + 1 → l[j] &&& mk[j] = ad[j]) := fun j h h1 h2 hj => by
          by_cases e : j < k
          · exact Q.out j h h1 h2 e
          · have : j = k := by omega
            subst this; exact he
        have hb1 : ((bits BinOp.and IntKind.u8 ((l[k]'hlt).toNat : Int) ((mk[k]'km).toNat : Int)) != ((ad[k]'ka).toNat : Int)) = false := by rw [hb0, he, bne_self_eq_false]
        clear he hb0 Q HB
        go_wp2
        go_quiet (fail)
        go_wp2
        go_roundg (l.length - (k + 1))
        case measure => omega
        case rel => exact ⟨k + 1, by omega, by omega, by go_num, Q2, below_drewN HW.out _⟩
      · have F : Hid (b = false) := by
          cases b
          · rfl
          · exact absurd ((HB.out.1 rfl).2 k hlt ka km) he
        have hb1 : ((bits BinOp.and IntKind.u8 ((l[k]'hlt).toNat : Int) ((mk[k]'km).toNat : Int)) != ((ad[k]'ka).toNat : Int)) = true := by
          rw [hb0, bne_iff_ne]
          intro e
          exact he (UInt8.toNat_inj.1 (by omega))
        clear he hb0 Q HB
        go_wp2
        go_quiet (fail)
        go_wp2
        go_ret
        exact ⟨ret_int (by rw [F.out]; rfl), below_drewN HBW.out _⟩
    · have F : Hid (b = true) := HB.out.2 ⟨HE.out, fun i h h1 h2 => Q.out i h h1 h2 (by omega)⟩
      clear Q HB
      go_wp2
      go_ret
      exact ⟨ret_int (by rw [F.out]; rfl), HBW.out⟩
end Go.Proofs.Ytgaolfbbfdojjaa
