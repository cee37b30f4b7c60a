/-
  Walks: spec.NetOk, spec.Within.
-/
import Derived.Test.YtgaolfbbfdojjaaN3
namespace Go.Proofs.Ytgaolfbbfdojjaa
open Go.ChangeShapes Go.WideShapes Go.ChangeAt Go.RowKit

/-- A network: an address, a mask of the same length, ones and then noughts; noughts in the address where the mask has them; its last address is one, too. -/
def NetGood (ad ms : List UInt8) : Prop := AddrOk ad ∧ ms.length = ad.length ∧ (∃ n, MaskN ms n) ∧ AddrOk (lastL ad ms) ∧ ∀ i (h : i < ad.length) (h2 : i < ms.length), ad[i] &&& ~~~ms[i] = 0
/-- A boxed network. -/
def BoxR (w : World) (g : Nat) (N : NetA) (w' : World) : Prop := w'.heap[g]? = some (.cells #[.slice N.A N.ad.length N.c, .slice N.M N.ms.length N.d] 24 (0, 0)) ∧ NetR w' N ∧ Below w.heap.size w w'
theorem BoxR.start {w : World} {N : NetA} (h : NetR w N) : BoxR w w.heap.size N (w.alloc (.cells #[.slice N.A N.ad.length N.c, .slice N.M N.ms.length N.d] 24)) := ⟨blk_new _ _, h.below (Below.one _ _), Below.one _ _⟩
theorem BoxR.next {w w' w2 : World} {g : Nat} {N : NetA} (h : BoxR w g N w') (k : Below w'.heap.size w' w2) : BoxR w g N w2 := ⟨(k.block _ (blk_lt h.1)).trans h.1, h.2.1.below k, h.2.2.trans (k.mono h.2.2.size)⟩
theorem BoxR.cells {w w' : World} {g : Nat} {N : NetA} (h : BoxR w g N w') : w'.cell? ⟨g, 0, none⟩ = some (.slice N.A N.ad.length N.c) ∧ w'.cell? ⟨g, 1, none⟩ = some (.slice N.M N.ms.length N.d) :=
  ⟨by rw [blk_cell h.1]; rfl, by rw [blk_cell h.1]; rfl⟩
set_option maxHeartbeats 2000000 in
theorem netOk_any (N : NetA) (w : World) (hN : NetR w N) (hal : N.ad.length ≤ 2147483647) (hml : N.ms.length ≤ 2147483647) (b : Bool) (hb : b = true ↔ NetGood N.ad N.ms) :
    Calls Try.prog 9 #[netV N] w (Ret (.bool b) w) := by
  have HX := Lib.hid (BoxR.start hN)
  obtain ⟨B, bc, M, mc, ad, mk⟩ := N
  unfold netV
  clear hN
  simp only at *
  have HB := Lib.hid hb
  clear hb
  by_cases ha : AddrOk ad
  rotate_left
  · have F : Hid (b = false) := by
      cases b
      · rfl
      · exact absurd (HB.out.1 rfl).1 ha
    have HA := Lib.hid (addrOk_any B _ bc ad (w.alloc (.cells #[.slice B ad.length bc, .slice M mk.length mc] 24)) rfl (by omega) HX.out.2.1.1 false ⟨fun e => (by cases e), fun e => absurd e ha⟩)
    clear ha HB
    go_enter Try.func9, Try.ntmps9
    go_wp2_with ((with_reducible refine HA.out.mono ?_); rintro e w1 ⟨rfl, hb1⟩)
    go_ret
    exact ⟨ret_bool F.out.symm, (HX.out.next hb1).2.2⟩
  have HA := Lib.hid (addrOk_any B _ bc ad (w.alloc (.cells #[.slice B ad.length bc, .slice M mk.length mc] 24)) rfl (by omega) HX.out.2.1.1 true ⟨fun _ => ha, fun _ => rfl⟩)
  by_cases hm : mk.length = ad.length
  rotate_left
  · have F : Hid (b = false) := by
      cases b
      · rfl
      · exact absurd (HB.out.1 rfl).2.1 hm
    have h1 : ((mk.length : Int) == (ad.length : Int)) = false := by rw [beq_eq_false_iff_ne]; omega
    have h2 : ((mk.length : Int) != (ad.length : Int)) = true := by rw [bne_iff_ne]; omega
    clear ha hm HB
    go_enter Try.func9, Try.ntmps9
    go_wp2_with fail
    refine HA.out.mono ?_
    rintro e w1 ⟨rfl, hb1⟩
    have HX1 := Lib.hid (HX.out.next hb1)
    obtain ⟨c0, c1⟩ := HX1.out.cells
    simp only at c0 c1
    clear hb1
    go_wp2
    go_ret
    exact ⟨ret_bool F.out.symm, HX1.out.2.2⟩
  have h1 : ((mk.length : Int) == (ad.length : Int)) = true := by rw [beq_iff_eq]; omega
  have h2 : ((mk.length : Int) != (ad.length : Int)) = false := by rw [bne_eq_false_iff_eq]; omega
  have HM := Lib.hid hm
  have HAd := Lib.hid ha
  clear hm ha
  go_enter Try.func9, Try.ntmps9
  go_wp2_with fail
  refine HA.out.mono ?_
  rintro e w1 ⟨rfl, hb1⟩
  have HX1 := Lib.hid (HX.out.next hb1)
  obtain ⟨c0, c1⟩ := HX1.out.cells
  simp only at c0 c1
  clear hb1 HX HA
  have HO := Lib.hid (ones_any M _ mc mk w1 rfl (by omega) HX1.out.2.1.2.1)
  go_wp2_with fail
  refine HO.out.mono ?_
  clear HO
  rintro e w2 ⟨rfl, h⟩
  rcases h with ⟨n, rfl, hn⟩ | ⟨rfl, hn⟩
  rotate_left
  · have F : Hid (b = false) := by
      cases b
      · rfl
      · obtain ⟨n, h⟩ := (HB.out.1 rfl).2.2.1
        exact absurd h (hn n)
    clear hn HB
    go_wp2
    go_ret
    exact ⟨ret_bool F.out.symm, HX1.out.2.2⟩
  have HNn := Lib.hid hn
  clear hn
  have HL := Lib.hid (last_any ⟨B, bc, M, mc, ad, mk⟩ w1 HX1.out.2.1 hal hml HM.out)
  unfold netV at HL
  simp only at HL
  go_wp2_with fail
  refine HL.out.mono ?_
  clear HL
  rintro e w2 ⟨v, rfl, hown, hb2⟩
  have HX2 := Lib.hid (HX1.out.next hb2)
  obtain ⟨A, cap, rfl, -, -, hrd, -⟩ := Rd.own hown
  have hll := lastL_length ad mk HM.out
  by_cases hla : AddrOk (lastL ad mk)
  rotate_left
  · have F : Hid (b = false) := by
      cases b
      · rfl
      · exact absurd (HB.out.1 rfl).2.2.2.1 hla
    have HA := Lib.hid (addrOk_any A _ cap (lastL ad mk) w2 rfl (by omega) hrd false ⟨fun e => (by cases e), fun e => absurd e hla⟩)
    clear hla HB hown hb2 hrd HX1 c0 c1 hll
    go_wp2_with fail
    refine HA.out.mono ?_
    rintro e w3 ⟨rfl, hb3⟩
    go_wp2
    go_ret
    exact ⟨ret_bool F.out.symm, (HX2.out.next hb3).2.2⟩
  have HA := Lib.hid (addrOk_any A _ cap (lastL ad mk) w2 rfl (by omega) hrd true ⟨fun _ => hla, fun _ => rfl⟩)
  have HLa := Lib.hid hla
  clear hla hown hb2 hrd HX1 c0 c1 hll
  go_wp2_with fail
  refine HA.out.mono ?_
  rintro e w3 ⟨rfl, hb3⟩
  have HX3 := Lib.hid (HX2.out.next hb3)
  clear hb3 HX2 HA
  obtain ⟨c0, c1⟩ := HX3.out.cells
  simp only at c0 c1
  go_wp2
  go_loopg [37] ad.length (fun kx i wr => w3 = wr ∧ ∃ k : Nat, k ≤ ad.length ∧ ad.length - k ≤ kx ∧ i = .int .i64 k ∧ Aside (∀ j (h : j < ad.length) (h2 : j < mk.length), j < k → ad[j] &&& ~~~mk[j] = 0))
  case atStart => exact ⟨rfl, 0, by omega, by omega, rfl, fun j h h1 h2 => by omega⟩
  case round =>
    obtain ⟨rfl, k, hk, hg, rfl, Q⟩ := hrel
    by_cases hlt : k < ad.length
    · have km : k < mk.length := by have := HM.out; omega
      obtain ⟨pB, rfl, cB⟩ := HX3.out.2.1.1.byte hlt
      obtain ⟨pM, rfl, cM⟩ := HX3.out.2.1.2.1.byte km
      simp only at cB cM
      have hb0 := andNot_is (ad[k]'hlt) (mk[k]'km)
      by_cases he : ad[k]'hlt &&& ~~~(mk[k]'km) = 0
      · have Q2 : Aside (∀ j (h : j < ad.length) (h2 : j < mk.length), j < k + 1 → ad[j] &&& ~~~mk[j] = 0) := fun j h h2 hj => by
          by_cases e : j < k
          · exact Q.out j h h2 e
          · have : j = k := by omega
            subst this; exact he
        have hb1 : ((bits BinOp.andNot IntKind.u8 ((ad[k]'hlt).toNat : Int) ((mk[k]'km).toNat : Int)) != 0) = false := by rw [hb0, he]; rfl
        clear he hb0 Q
        go_wp2
        go_roundg (ad.length - (k + 1))
        case measure => omega
        case rel => exact ⟨rfl, k + 1, by omega, by omega, by go_num, Q2⟩
      · have F : Hid (b = false) := by
          cases b
          · rfl
          · exact absurd ((HB.out.1 rfl).2.2.2.2 k hlt km) he
        have hb1 : ((bits BinOp.andNot IntKind.u8 ((ad[k]'hlt).toNat : Int) ((mk[k]'km).toNat : Int)) != 0) = true := by
          rw [hb0, bne_c (d := 0) (n := 0) rfl]; simpa using he
        clear he hb0 Q
        go_wp2
        go_ret
        exact ⟨ret_bool F.out.symm, HX3.out.2.2⟩
    · have F : Hid (b = true) := HB.out.2 ⟨HAd.out, HM.out, ⟨n, HNn.out⟩, HLa.out, fun i h h2 => Q.out i h h2 (by omega)⟩
      clear Q
      go_wp2
      go_ret
      exact ⟨ret_bool F.out.symm, HX3.out.2.2⟩
end Go.Proofs.Ytgaolfbbfdojjaa
