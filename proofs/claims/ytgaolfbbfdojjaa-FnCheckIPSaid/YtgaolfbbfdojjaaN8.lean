/-
  Walks: Contains, ipNetworkSubset, ZZIPSubset, impl.Subset, spec.Within.
-/
import Derived.Test.YtgaolfbbfdojjaaN7
import Derived.Deep.RegionHeld3
namespace Go.Proofs.Ytgaolfbbfdojjaa
open Go.ChangeShapes Go.WideShapes Go.ChangeAt Go.RowKit

theorem NetG.inN {N : NetA} (h : NetG N) (l : List UInt8) : InN N.ad N.ms l ↔ l.length = N.ad.length ∧ ∀ i (h1 : i < l.length) (h2 : i < N.ad.length) (h3 : i < N.ms.length), N.ad[i] &&& N.ms[i] = l[i] &&& N.ms[i] :=
  ⟨fun k => ⟨k.1, fun i h1 h2 h3 => by rw [h.zero i h2 h3, k.2 i h1 h2 h3]⟩, fun k => ⟨k.1, fun i h1 h2 h3 => by rw [← k.2 i h1 h2 h3, h.zero i h2 h3]⟩⟩
theorem AddrOk.some {l : List UInt8} (h : AddrOk l) {w : World} {A : Option Addr} (hr : Rd w A (u8s l)) : ∃ ad, A = some ad := by
  have hl := h.len
  obtain ⟨ad, e, -⟩ := hr.byte (i := 0) (by omega)
  exact ⟨ad, e⟩
set_option maxHeartbeats 2000000 in
theorem contains_any (g : Nat) (N : NetA) (A : Option Addr) (n c : Nat) (l : List UInt8) (w : World) (hN : NetP w g N) (hg : NetG N) (hn : n = l.length) (hc : n ≤ c) (hr : Rd w A (u8s l)) (ha : AddrOk l) (b : Bool) (hb : b = true ↔ InN N.ad N.ms l) :
    Calls Try.prog 41 #[.pointer (some ⟨g, 0, none⟩), .slice A n c] w (Quiet1 (.bool b) w) := by
  subst hn
  obtain ⟨ad, rfl⟩ := ha.some hr
  have hl := ha.len
  have HT := Lib.hid (to4_any (some ad) l.length c l w rfl hc hr ha)
  have HM := Lib.hid (nnm_any g N w hN hg)
  unfold TwoV at HM
  have HB := Lib.hid (hb.trans (hg.inN l))
  have hE := fun wx a n c n' c' => run_neq_slice_nil_any (P := Try.prog) wx 53 5 a n c n' c' Try.underlying53
  have hal := hg.a1
  have HE2 := Lib.hid hg.len
  have HR := Lib.hid hr
  have HRa := Lib.hid hN.2.1
  have HRm := Lib.hid hN.2.2.1
  have hT : to4V (some ad) l.length c = if l.length = 4 then .slice (some ad) l.length c else .slice none 0 0 := rfl
  clear hb hN hg hr ha
  have hT2 : Hid (Calls Try.prog 53 #[.slice (some ad) l.length c] w (Same (.slice (some ad) l.length c) w) ∨ Calls Try.prog 53 #[.slice (some ad) l.length c] w (Same (.slice none 0 0) w)) := by
    show _ ∨ _
    by_cases e : l.length = 4
    · left; have := HT.out; rw [hT, if_pos e] at this; exact this
    · right; have := HT.out; rw [hT, if_neg e] at this; exact this
  clear HT hT
  have hl2 : l.length ≤ 2147483647 := by omega
  clear hl
  by_cases hne : l.length = N.ad.length
  rotate_left
  · have F : Hid (b = false) := by
      cases b
      · rfl
      · exact absurd (HB.out.1 rfl).1 hne
    have h1 : ((l.length : Int) == (N.ad.length : Int)) = false := by rw [beq_eq_false_iff_ne]; omega
    have h2 : ((l.length : Int) != (N.ad.length : Int)) = true := by rw [bne_iff_ne]; omega
    clear hne HB
    rcases hT2.out with HT | HT
    all_goals
      have HT := Lib.hid HT
      clear hT2
      go_enter Try.func41, Try.ntmps41
      go_wp2_with (first | ((with_reducible refine HM.out.mono ?_); rintro e w1 ⟨rfl, rfl⟩) | ((with_reducible refine HT.out.mono ?_); rintro e w1 ⟨rfl, rfl⟩))
      go_ret
      exact ⟨ret_bool F.out.symm, 0, rfl⟩
  have h1 : ((l.length : Int) == (N.ad.length : Int)) = true := by rw [beq_iff_eq]; omega
  have h2 : ((l.length : Int) != (N.ad.length : Int)) = false := by rw [bne_eq_false_iff_eq]; omega
  have HE := Lib.hid hne
  clear hne
  rcases hT2.out with HT | HT
  all_goals
    have HT := Lib.hid HT
    clear hT2
    go_enter Try.func41, Try.ntmps41
    go_wp2_with (first | ((with_reducible refine HM.out.mono ?_); rintro e w1 ⟨rfl, rfl⟩) | ((with_reducible refine HT.out.mono ?_); rintro e w1 ⟨rfl, rfl⟩))
    go_loopg [9] l.length (fun kx i wr => ∃ k q : Nat, k ≤ l.length ∧ l.length - k ≤ kx ∧ i = .int .i64 k ∧ Aside (wr = w.drewN q) ∧ Aside (∀ j (h : j < l.length) (h1 : j < N.ad.length) (h2 : j < N.ms.length), j < k → N.ad[j] &&& N.ms[j] = l[j] &&& N.ms[j]))
    case atStart => exact ⟨0, 0, by omega, by omega, rfl, rfl, fun j h h1 h2 h' => by omega⟩
    case round =>
      obtain ⟨k, q, hk, hg, rfl, HW, Q⟩ := hrel
      have HBl := Lib.hid (show Below w.heap.size w wr by rw [HW.out]; exact below_drewN (Below.refl _ _) _)
      by_cases hlt : k < l.length
      · have ka : k < N.ad.length := by have := HE.out; omega
        have km : k < N.ms.length := by have := HE.out; have := HE2.out; omega
        obtain ⟨pA, e, cA⟩ := (HR.out.below HBl.out).byte hlt
        obtain rfl := Option.some.inj e
        obtain ⟨pB, eB, cB⟩ := (HRa.out.below HBl.out).byte ka
        obtain ⟨pM, eM, cM⟩ := (HRm.out.below HBl.out).byte km
        have ka' : (k : Int) < (N.ad.length : Int) := by omega
        have km' : (k : Int) < (N.ms.length : Int) := by omega
        have hb0 := and_is (N.ad[k]'ka) (N.ms[k]'km)
        have hb1 := and_is (l[k]'hlt) (N.ms[k]'km)
        clear e
        by_cases he : N.ad[k]'ka &&& N.ms[k]'km = l[k]'hlt &&& N.ms[k]'km
        · have Q2 : Aside (∀ j (h : j < l.length) (h1 : j < N.ad.length) (h2 : j < N.ms.length), j < k + 1 → N.ad[j] &&& N.ms[j] = l[j] &&& N.ms[j]) := fun j h h1 h2 hj => by
            by_cases e : j < k
            · exact Q.out j h h1 h2 e
            · have : j = k := by omega
              subst this; exact he
          have hb2 : ((bits BinOp.and IntKind.u8 ((N.ad[k]'ka).toNat : Int) ((N.ms[k]'km).toNat : Int)) != bits BinOp.and IntKind.u8 ((l[k]'hlt).toNat : Int) ((N.ms[k]'km).toNat : Int)) = false := by rw [hb0, hb1, he, bne_self_eq_false]
          clear he hb0 hb1 Q HB
          go_wp2
          go_quiet (fail)
          go_wp2
          go_roundg (l.length - (k + 1))
          case measure => omega
          case rel => exact ⟨k + 1, q + nq, by omega, by omega, by go_num, (show _ = _ by rw [HW.out, World.drewN_drewN]), Q2⟩
        · have F : Hid (b = false) := by
            cases b
            · rfl
            · exact absurd ((HB.out.1 rfl).2 k hlt ka km) he
          have hb2 : ((bits BinOp.and IntKind.u8 ((N.ad[k]'ka).toNat : Int) ((N.ms[k]'km).toNat : Int)) != bits BinOp.and IntKind.u8 ((l[k]'hlt).toNat : Int) ((N.ms[k]'km).toNat : Int)) = true := by
            rw [hb0, hb1, bne_iff_ne]
            intro e
            exact he (UInt8.toNat_inj.1 (by omega))
          clear he hb0 hb1 Q HB
          go_wp2
          go_quiet (fail)
          go_wp2
          go_ret
          exact ⟨ret_bool F.out.symm, _, by rw [HW.out, World.drewN_drewN]⟩
      · have F : Hid (b = true) := HB.out.2 ⟨HE.out, fun i h h1 h2 => Q.out i h h1 h2 (by omega)⟩
        clear Q HB
        go_wp2
        go_ret
        exact ⟨ret_bool F.out.symm, q, HW.out⟩
end Go.Proofs.Ytgaolfbbfdojjaa
