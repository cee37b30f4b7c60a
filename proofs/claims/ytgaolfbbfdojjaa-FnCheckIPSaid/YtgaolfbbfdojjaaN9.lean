/-
  Walks: ipNetworkSubset, ZZIPSubset, impl.Subset, spec.Within.
-/
import Derived.Test.YtgaolfbbfdojjaaN8
import Derived.StillTailTactics
import Derived.Deep.OwnRows
namespace Go.Proofs.Ytgaolfbbfdojjaa
open Go.ChangeShapes Go.WideShapes Go.ChangeAt Go.RowKit

/-- A row that is being filled: k bytes of l, noughts behind. -/
def fillV (l : List UInt8) (k : Nat) (j : Nat) : Value := if j < k then .int .u8 ((l.getD j 0).toNat : Int) else .int .u8 0
theorem Rd.filled {w : World} {b n : Nat} {T : TypeId} {l : List UInt8} (h : w.rowIs b T n (fillV l n)) (hl : l.length = n) : Rd w (some ⟨b, 0, none⟩) (u8s l) := fun i v hv => by
  have hi : i < l.length := by have := (List.getElem?_eq_some_iff.1 hv).1; rwa [u8s_length] at this
  rw [u8s_get hi] at hv
  obtain rfl := Option.some.inj hv
  refine ⟨_, rfl, h.lt, ?_⟩
  rw [show (⟨b, 0, none⟩ : Addr).add i = ⟨b, i, none⟩ by simp [Addr.add]; intro h; exact h.symm, h.cell (by omega)]
  unfold fillV
  rw [if_pos (by omega), List.getD, List.getElem?_eq_getElem hi]
  rfl
theorem fill_next {w : World} {b n : Nat} {T : TypeId} {l : List UInt8} {k : Nat} (h : w.rowIs b T n (fillV l k)) (hk : k < l.length) {m : Int} (hm : m = (l[k].toNat : Int)) : (w.setCell ⟨b, k, none⟩ (.int .u8 m)).rowIs b T n (fillV l (k + 1)) := by
  subst hm
  refine (h.set k _).congr fun i _ => ?_
  unfold fillV
  by_cases e : i = k
  · subst e
    rw [if_pos rfl, if_pos (by omega), List.getD, List.getElem?_eq_getElem hk]
    rfl
  · rw [if_neg e]
    by_cases e2 : i < k
    · rw [if_pos e2, if_pos (by omega)]
    · rw [if_neg e2, if_neg (by omega)]
theorem subN_iff {a b : List UInt8 × List UInt8} (h : InN a.1 a.2 b.1) : SubN a b ↔ InN a.1 a.2 (lastL b.1 b.2) := ⟨fun k => k.2, fun k => ⟨h, k⟩⟩
set_option maxHeartbeats 2000000 in
set_option maxRecDepth 100000 in
theorem subset_any (g h : Nat) (N K : NetA) (w : World) (hN : NetP w g N) (hK : NetP w h K) (gN : NetG N) (gK : NetG K) (hla : AddrOk (lastL K.ad K.ms)) (b : Bool) (hb : b = true ↔ SubN (N.ad, N.ms) (K.ad, K.ms)) :
    Calls Try.prog 36 #[.pointer (some ⟨g, 0, none⟩), .pointer (some ⟨h, 0, none⟩)] w (Ret (.bool b) w) := by
  obtain ⟨kA, eA⟩ := gK.addr.some hK.2.1
  obtain ⟨kM, eM, -⟩ := hK.2.2.1.byte (i := 0) (by have := gK.len; have := gK.addr.len; omega)
  obtain ⟨A, kc, M, kd, kad, kms⟩ := K
  simp only at eA eM
  subst eA eM
  obtain ⟨c0, c1⟩ := hK.cells
  simp only at c0 c1 hla hb
  have hll := lastL_length kad kms gK.len
  by_cases h1 : InN N.ad N.ms kad
  rotate_left
  · have F : Hid (b = false) := by
      cases b
      · rfl
      · exact absurd (hb.1 rfl).1 h1
    have HC := Lib.hid (contains_any g N (some kA) kad.length kc kad w hN gN rfl hK.2.2.2.1 hK.2.1 gK.addr false ⟨fun e => (by cases e), fun e => absurd e h1⟩)
    clear hb h1 hN hK gN gK hla hll
    go_enter Try.func36, Try.ntmps36
    go_wp2_with ((with_reducible refine HC.out.mono ?_); rintro e w1 ⟨rfl, q, rfl⟩)
    go_ret
    exact ⟨ret_bool F.out.symm, below_drewN (Below.refl _ _) _⟩
  have HC := Lib.hid (contains_any g N (some kA) kad.length kc kad w hN gN rfl hK.2.2.2.1 hK.2.1 gK.addr true ⟨fun _ => h1, fun _ => rfl⟩)
  have HL : Hid (∀ (W : World) (B : Nat), Below w.heap.size w W → W.rowIs B 5 kad.length (fillV (lastL kad kms) kad.length) → Calls Try.prog 41 #[.pointer (some ⟨g, 0, none⟩), .slice (some ⟨B, 0, none⟩) kad.length kad.length] W (Quiet1 (.bool b) W)) := fun W B hW hR =>
    contains_any g N (some ⟨B, 0, none⟩) kad.length kad.length (lastL kad kms) W (hN.below hW) gN hll.symm (Nat.le_refl _) (Rd.filled hR hll) hla b (hb.trans (subN_iff h1))
  have HK := Lib.hid hK
  have hkl : kad.length ≤ 2147483647 := gK.a1
  have HE := Lib.hid (show kms.length = kad.length from gK.len)
  have HLL := Lib.hid hll
  clear hb h1 hN hK gN gK hla hll
  have hmk := fun wx => run_make_row' (P := Try.prog) 53 5 (.int .u8 0) 1 Try.underlying53 info_u8 rfl .i64 .i64 kad.length (by omega) (by omega) wx
  go_enter Try.func36, Try.ntmps36
  go_wp2_with fail
  refine HC.out.mono ?_
  rintro e w1 ⟨rfl, q, hw1⟩
  have HB1 := Lib.hid (show Below w.heap.size w w1 by rw [hw1]; exact below_drewN (Below.refl _ _) _)
  have HK1 := Lib.hid (HK.out.below HB1.out)
  clear hw1 c0 c1 HC HK
  obtain ⟨W, hW⟩ : ∃ W, w1.alloc (.cells (madeCells #[.int .u8 0] kad.length) 5) = W := ⟨_, rfl⟩
  have hmk1 := hmk w1
  rw [hW] at hmk1
  have HBW := Lib.hid (show Below w1.heap.size w1 W by rw [← hW]; exact Below.one _ _)
  have HRW := Lib.hid (show W.rowIs w1.heap.size 5 kad.length (fillV (lastL kad kms) 0) by
    rw [← hW]
    refine (World.rowIs_made w1 (.int .u8 0) kad.length 5).congr fun i _ => ?_
    unfold fillV
    rw [if_neg (by omega)])
  clear hW hmk
  have HKW := Lib.hid (HK1.out.below HBW.out)
  obtain ⟨c0, c1⟩ := HK1.out.cells
  simp only at c0 c1
  obtain ⟨d0, d1⟩ := HKW.out.cells
  simp only at d0 d1
  go_wp2_with fail
  go_loopg [25] kad.length (fun kx s25 wr => ∃ k : Nat, k ≤ kad.length ∧ kad.length - k ≤ kx ∧ s25 = .int .i64 k ∧ Aside (wr.rowIs w1.heap.size 5 kad.length (fillV (lastL kad kms) k)) ∧ Aside (Below w1.heap.size w1 wr))
  case atStart => exact ⟨0, by omega, by omega, rfl, HRW.out, HBW.out⟩
  case round =>
    clear c0 c1 d0 d1 HRW HKW hmk1 HBW
    obtain ⟨k, hk, hg, rfl, HR, HB⟩ := hrel
    have HKr := Lib.hid (HK1.out.below HB.out)
    obtain ⟨c0, c1⟩ := HKr.out.cells
    simp only at c0 c1
    by_cases hlt : k < kad.length
    · have km : k < kms.length := by have := HE.out; omega
      have kl : k < (lastL kad kms).length := by have := HLL.out; omega
      obtain ⟨pA, eA, cA⟩ := HKr.out.2.1.byte hlt
      obtain rfl := Option.some.inj eA
      obtain ⟨pM, eM, cM⟩ := HKr.out.2.2.1.byte km
      obtain rfl := Option.some.inj eM
      clear eA eM
      simp only at cA cM
      have km' : (k : Int) < (kms.length : Int) := by omega
      have ho := HR.out.cell hlt
      have hf := HR.out.frozen k
      have HV := Lib.hid (or_not_is (kad[k]'hlt) (kms[k]'km))
      go_wp2
      go_still_tail 19, (by kernel_rfl)
      change wpList _ _ _ _ _ wr.drew
      go_wp2
      go_roundg (kad.length - (k + 1))
      case measure => omega
      case rel => exact ⟨k + 1, by omega, by omega, by go_num, fill_next HR.out.drew kl (HV.out.trans (by rw [lastL_get hlt km kl])), (HB.out.drew).setCell (Nat.le_refl _) _⟩
    · obtain rfl : k = kad.length := by omega
      have HBr := Lib.hid (show Below w.heap.size w wr from HB1.out.trans (HB.out.mono HB1.out.size))
      have HC := Lib.hid (HL.out wr w1.heap.size HBr.out HR.out)
      clear HL c0 c1 HKr HB HR HK1
      go_wp2_with ((with_reducible refine HC.out.mono ?_); rintro e w2 ⟨rfl, q2, rfl⟩)
      go_ret
      exact ⟨rfl, below_drewN HBr.out _⟩
set_option maxHeartbeats 1000000 in
theorem zzSubset_any (g h : Nat) (N K : NetA) (w : World) (hN : NetP w g N) (hK : NetP w h K) (gN : NetG N) (gK : NetG K) (hla : AddrOk (lastL K.ad K.ms)) (b : Bool) (hb : b = true ↔ SubN (N.ad, N.ms) (K.ad, K.ms)) :
    Calls Try.prog 27 #[.pointer (some ⟨g, 0, none⟩), .pointer (some ⟨h, 0, none⟩)] w (Ret (.bool b) w) := by
  have HC := Lib.hid (subset_any g h N K w hN hK gN gK hla b hb)
  clear hN hK gN gK hla hb
  go_enter Try.func27, Try.ntmps27
  go_wp2_with ((with_reducible refine HC.out.mono ?_); rintro e w1 ⟨rfl, hb1⟩)
  go_ret
  exact ⟨rfl, hb1⟩
/-- A network's two rows are those of another one. -/
theorem NetG.same {N K : NetA} (h : NetG N) (e1 : K.ad = N.ad) (e2 : K.ms = N.ms) : NetG K := by
  obtain ⟨A, c, M, d, ad, ms⟩ := K
  simp only at e1 e2
  subst e1 e2
  exact ⟨h.a1, h.len, h.addr, h.zero⟩
set_option maxHeartbeats 2000000 in
theorem implSubset_any (N K : NetA) (w : World) (hN : NetR w N) (hK : NetR w K) (gN : NetG N) (gK : NetG K) (hla : AddrOk (lastL K.ad K.ms)) (b : Bool) (hb : b = true ↔ SubN (N.ad, N.ms) (K.ad, K.ms)) :
    Calls Try.prog 11 #[netV N, netV K] w (Ret (.bool b) w) := by
  have ht0 := (TwoR.start hN hK).next ((Below.refl _ _).drew)
  have HC1 : Hid (∀ W, TwoR w N K W → Calls Try.prog 26 #[netV N] W (NetPost N.ad N.ms W)) := fun W h => network_any N W h.1 gN.a1 (by have := gN.len; have := gN.a1; omega)
  have HC2 : Hid (∀ W, TwoR w N K W → Calls Try.prog 26 #[netV K] W (NetPost K.ad K.ms W)) := fun W h => network_any K W h.2.1 gK.a1 (by have := gK.len; have := gK.a1; omega)
  have HZ : Hid (∀ (g h : Nat) (N1 K1 : NetA) (W : World), NetP W g N1 → NetP W h K1 → N1.ad = N.ad → N1.ms = N.ms → K1.ad = K.ad → K1.ms = K.ms → Calls Try.prog 27 #[.pointer (some ⟨g, 0, none⟩), .pointer (some ⟨h, 0, none⟩)] W (Ret (.bool b) W)) := fun g h N1 K1 W p1 p2 e1 e2 e3 e4 =>
    zzSubset_any g h N1 K1 W p1 p2 (gN.same e1 e2) (gK.same e3 e4) (by rw [e3, e4]; exact hla) b (by rw [e1, e2, e3, e4]; exact hb)
  unfold netV at *
  clear hN hK gN gK hla hb
  go_enter Try.func11, Try.ntmps11
  go_wp2
  go_region_with (first | ((with_reducible refine (HC1.out _ (by assumption)).mono ?_); rintro e wa ⟨ga, Na, rfl, ea1, ea2, sa, pa, hba⟩; have hta := TwoR.next (by assumption) hba; obtain ⟨⟨ka0, ka1⟩, ka2, ka3⟩ := hta.cells; try have pb2 := NetP.below pb hba) | ((with_reducible refine (HC2.out _ (by assumption)).mono ?_); rintro e wb ⟨gb, Nb, rfl, eb1, eb2, sb, pb, hbb⟩; have htb := TwoR.next (by assumption) hbb; obtain ⟨⟨kb0, kb1⟩, kb2, kb3⟩ := htb.cells; try have pa2 := NetP.below pa hbb) | ((with_reducible refine (HZ.out _ _ Na Nb _ (by assumption) (by assumption) (by assumption) (by assumption) (by assumption) (by assumption)).mono ?_); rintro e wc ⟨rfl, hbc⟩))
  all_goals
    go_wp2
    go_ret
    first
      | exact ⟨rfl, (htb.next hbc).2.2.1⟩
      | exact ⟨rfl, (hta.next hbc).2.2.1⟩
end Go.Proofs.Ytgaolfbbfdojjaa
