/-
  Walks: ipNetworkCompare, ZZIPCompare, impl.CompareIP.
-/
import Derived.Test.YtgaolfbbfdojjaaN5
import Derived.Deep.QuietTactic
import Derived.BigQuiet
namespace Go.Proofs.Ytgaolfbbfdojjaa
open Go.ChangeShapes Go.WideShapes Go.ChangeAt Go.RowKit

/-- Two networks compared: their addresses, then their masks. -/
def netCmp (a b : List UInt8 × List UInt8) : Int := if Lib.compareBytes a.1 b.1 = 0 then Lib.compareBytes a.2 b.2 else Lib.compareBytes a.1 b.1
theorem NetP.cells {w : World} {g : Nat} {N : NetA} (h : NetP w g N) : w.cell? ⟨g, 0, none⟩ = some (.slice N.A N.ad.length N.c) ∧ w.cell? ⟨g, 1, none⟩ = some (.slice N.M N.ms.length N.d) :=
  ⟨by rw [blk_cell h.1]; rfl, by rw [blk_cell h.1]; rfl⟩
theorem NetP.drewN {w : World} {g : Nat} {N : NetA} (h : NetP w g N) (n : Nat) : NetP (w.drewN n) g N := h.below (below_drewN (Below.refl _ _) n)
def Quiet1 (v : Value) (w : World) (e : Ending) (w' : World) : Prop := e = .returned v ∧ ∃ q, w' = w.drewN q
set_option maxHeartbeats 1000000 in
theorem netCompare_any (g h : Nat) (N K : NetA) (w : World) (hN : NetP w g N) (hK : NetP w h K) :
    Calls Try.prog 35 #[.pointer (some ⟨g, 0, none⟩), .pointer (some ⟨h, 0, none⟩)] w (Quiet1 (.int .i64 (netCmp (N.ad, N.ms) (K.ad, K.ms))) w) := by
  obtain ⟨c0, c1⟩ := hN.cells
  obtain ⟨k0, k1⟩ := hK.cells
  have HC1 : Hid (∀ n, Calls Try.prog 40 #[.slice N.A N.ad.length N.c, .slice K.A K.ad.length K.c] (w.drewN n) fun e w' => e = .returned (.int .i64 (Lib.compareBytes N.ad K.ad)) ∧ w' = w.drewN n) := fun n =>
    (compare_any N.A K.A _ _ N.c K.c N.ad K.ad (w.drewN n) rfl rfl (hN.drewN n).2.1 (hK.drewN n).2.1).mono fun _ _ h => ⟨h.1, h.2.symm⟩
  have HN := Lib.hid hN
  have HK := Lib.hid hK
  clear hN hK
  by_cases hz : Lib.compareBytes N.ad K.ad = 0
  · have F : Hid (netCmp (N.ad, N.ms) (K.ad, K.ms) = Lib.compareBytes N.ms K.ms) := by
      show _ = _
      unfold netCmp
      rw [if_pos hz]
    rw [hz] at HC1
    clear hz
    go_enter Try.func35, Try.ntmps35
    go_wp2
    go_quiet ((go_at_call 40; exact Calls.quiet_of_same (HC1.out _)))
    obtain ⟨W, hW⟩ : ∃ W, w.drewN nq = W := ⟨_, rfl⟩
    have hN2 : NetP W g N := by rw [← hW]; exact HN.out.drewN nq
    have hK2 : NetP W h K := by rw [← hW]; exact HK.out.drewN nq
    rw [hW]
    have HW := Lib.hid hW
    clear hW c0 c1 k0 k1
    have HC2 : Hid (∀ n, Calls Try.prog 40 #[.slice N.M N.ms.length N.d, .slice K.M K.ms.length K.d] (W.drewN n) fun e w' => e = .returned (.int .i64 (Lib.compareBytes N.ms K.ms)) ∧ w' = W.drewN n) := fun n =>
      (compare_any N.M K.M _ _ N.d K.d N.ms K.ms (W.drewN n) rfl rfl (hN2.drewN n).2.2.1 (hK2.drewN n).2.2.1).mono fun _ _ h => ⟨h.1, h.2.symm⟩
    obtain ⟨c0, c1⟩ := hN2.cells
    obtain ⟨k0, k1⟩ := hK2.cells
    clear hN2 hK2
    go_wp2
    go_quiet ((go_at_call 40; exact Calls.quiet_of_same (HC2.out _)))
    go_wp2
    go_ret
    exact ⟨ret_int F.out.symm, _, by rw [← HW.out, World.drewN_drewN]⟩
  · have F : Hid (netCmp (N.ad, N.ms) (K.ad, K.ms) = Lib.compareBytes N.ad K.ad) := by
      show _ = _
      unfold netCmp
      rw [if_neg hz]
    have h1 : (Lib.compareBytes N.ad K.ad == 0) = false := by rw [beq_eq_false_iff_ne]; exact hz
    have h2 : (Lib.compareBytes N.ad K.ad != 0) = true := by rw [bne_iff_ne]; exact hz
    clear hz
    go_enter Try.func35, Try.ntmps35
    go_wp2
    go_quiet ((go_at_call 40; exact Calls.quiet_of_same (HC1.out _)))
    go_wp2
    go_ret
    exact ⟨ret_int F.out.symm, _, rfl⟩
set_option maxHeartbeats 1000000 in
theorem zzCompare_any (g h : Nat) (N K : NetA) (w : World) (hN : NetP w g N) (hK : NetP w h K) :
    Calls Try.prog 25 #[.pointer (some ⟨g, 0, none⟩), .pointer (some ⟨h, 0, none⟩)] w (Quiet1 (.int .i64 (netCmp (N.ad, N.ms) (K.ad, K.ms))) w) := by
  have HC := Lib.hid (netCompare_any g h N K w hN hK)
  clear hN hK
  go_enter Try.func25, Try.ntmps25
  go_wp2_with ((with_reducible refine HC.out.mono ?_); rintro e w1 ⟨rfl, q, rfl⟩)
  go_ret
  exact ⟨rfl, q, rfl⟩
/-- Two boxed networks. -/
def TwoR (w : World) (N K : NetA) (W : World) : Prop := NetR W N ∧ NetR W K ∧ Below w.heap.size w W ∧ w.heap.size + 2 ≤ W.heap.size ∧ W.heap[w.heap.size]? = some (.cells #[.slice N.A N.ad.length N.c, .slice N.M N.ms.length N.d] 24 (0, 0)) ∧ W.heap[w.heap.size + 1]? = some (.cells #[.slice K.A K.ad.length K.c, .slice K.M K.ms.length K.d] 24 (0, 0))
theorem TwoR.start {w : World} {N K : NetA} (hN : NetR w N) (hK : NetR w K) : TwoR w N K ((w.alloc (.cells #[.slice N.A N.ad.length N.c, .slice N.M N.ms.length N.d] 24)).alloc (.cells #[.slice K.A K.ad.length K.c, .slice K.M K.ms.length K.d] 24)) := by
  have h1 : (w.alloc (.cells #[.slice N.A N.ad.length N.c, .slice N.M N.ms.length N.d] 24)).heap.size = w.heap.size + 1 := by simp
  have hb : Below w.heap.size w ((w.alloc (.cells #[.slice N.A N.ad.length N.c, .slice N.M N.ms.length N.d] 24)).alloc (.cells #[.slice K.A K.ad.length K.c, .slice K.M K.ms.length K.d] 24)) := (Below.one w _).alloc (by simp) _
  have h2 := blk_new (w.alloc (.cells #[.slice N.A N.ad.length N.c, .slice N.M N.ms.length N.d] 24)) (.cells #[.slice K.A K.ad.length K.c, .slice K.M K.ms.length K.d] 24)
  rw [h1] at h2
  exact ⟨hN.below hb, hK.below hb, hb, by simp, ((Below.one (w.alloc _) _).block _ (by simp)).trans (blk_new _ _), h2⟩
theorem TwoR.next {w W W2 : World} {N K : NetA} (h : TwoR w N K W) (k : Below W.heap.size W W2) : TwoR w N K W2 :=
  ⟨h.1.below k, h.2.1.below k, h.2.2.1.trans (k.mono h.2.2.1.size), Nat.le_trans h.2.2.2.1 k.size, (k.block _ (blk_lt h.2.2.2.2.1)).trans h.2.2.2.2.1, (k.block _ (blk_lt h.2.2.2.2.2)).trans h.2.2.2.2.2⟩
theorem TwoR.cells {w W : World} {N K : NetA} (h : TwoR w N K W) : (W.cell? ⟨w.heap.size, 0, none⟩ = some (.slice N.A N.ad.length N.c) ∧ W.cell? ⟨w.heap.size, 1, none⟩ = some (.slice N.M N.ms.length N.d)) ∧ W.cell? ⟨w.heap.size + 1, 0, none⟩ = some (.slice K.A K.ad.length K.c) ∧ W.cell? ⟨w.heap.size + 1, 1, none⟩ = some (.slice K.M K.ms.length K.d) :=
  ⟨⟨by rw [blk_cell h.2.2.2.2.1]; rfl, by rw [blk_cell h.2.2.2.2.1]; rfl⟩, by rw [blk_cell h.2.2.2.2.2]; rfl, by rw [blk_cell h.2.2.2.2.2]; rfl⟩
set_option maxHeartbeats 2000000 in
theorem implCompare_any (N K : NetA) (w : World) (hN : NetR w N) (hK : NetR w K) (n1 : N.ad.length ≤ 2147483647) (n2 : N.ms.length ≤ 2147483647) (k1 : K.ad.length ≤ 2147483647) (k2 : K.ms.length ≤ 2147483647) :
    Calls Try.prog 10 #[netV N, netV K] w (Ret (.int .i64 (netCmp (N.ad, N.ms) (K.ad, K.ms))) w) := by
  have ht0 := (TwoR.start hN hK).next ((Below.refl _ _).drew)
  have HC1 : Hid (∀ W, TwoR w N K W → Calls Try.prog 26 #[netV N] W (NetPost N.ad N.ms W)) := fun W h => network_any N W h.1 n1 n2
  have HC2 : Hid (∀ W, TwoR w N K W → Calls Try.prog 26 #[netV K] W (NetPost K.ad K.ms W)) := fun W h => network_any K W h.2.1 k1 k2
  unfold netV at *
  clear hN hK
  go_enter Try.func10, Try.ntmps10
  go_wp2
  go_region_with (first | ((with_reducible refine (HC1.out _ (by assumption)).mono ?_); rintro e wa ⟨ga, Na, rfl, ea1, ea2, sa, pa, hba⟩; have hta := TwoR.next (by assumption) hba; obtain ⟨⟨ka0, ka1⟩, ka2, ka3⟩ := hta.cells; try have pb2 := NetP.below pb hba) | ((with_reducible refine (HC2.out _ (by assumption)).mono ?_); rintro e wb ⟨gb, Nb, rfl, eb1, eb2, sb, pb, hbb⟩; have htb := TwoR.next (by assumption) hbb; obtain ⟨⟨kb0, kb1⟩, kb2, kb3⟩ := htb.cells; try have pa2 := NetP.below pa hbb) | ((with_reducible refine (zzCompare_any _ _ Na Nb _ (by assumption) (by assumption)).mono ?_); rintro e wc ⟨rfl, q, rfl⟩))
  all_goals
    go_wp2
    go_ret
    first
      | exact ⟨ret_int (by first | rfl | rw [ea1, ea2, eb1, eb2]), below_drewN htb.2.2.1 _⟩
      | exact ⟨ret_int (by first | rfl | rw [ea1, ea2, eb1, eb2]), below_drewN hta.2.2.1 _⟩
end Go.Proofs.Ytgaolfbbfdojjaa
