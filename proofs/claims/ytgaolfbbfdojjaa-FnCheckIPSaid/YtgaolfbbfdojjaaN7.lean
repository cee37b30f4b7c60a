/-
  Walks: isZeros, To4, networkNumberAndMask, Contains.
-/
import Derived.Test.YtgaolfbbfdojjaaPNets
namespace Go.Proofs.Ytgaolfbbfdojjaa
open Go.ChangeShapes Go.WideShapes Go.ChangeAt Go.RowKit

def Same (v : Value) (w : World) (e : Ending) (w' : World) : Prop := e = .returned v ∧ w = w'
set_option maxHeartbeats 1000000 in
theorem isZeros_any (A : Option Addr) (n c : Nat) (l : List UInt8) (w : World) (hn : n = l.length) (hl : l.length ≤ 2147483647) (hr : Rd w A (u8s l)) (b : Bool) (hb : b = true ↔ ∀ j (h : j < l.length), l[j] = 0) :
    Calls Try.prog 58 #[.slice A n c] w (Same (.bool b) w) := by
  subst hn
  have HR := Lib.hid hr
  have HB := Lib.hid hb
  clear hr hb
  go_enter Try.func58, Try.ntmps58
  go_wp2
  go_loopg [3] l.length (fun kx i wr => w = wr ∧ ∃ k : Nat, k ≤ l.length ∧ l.length - k ≤ kx ∧ i = .int .i64 k ∧ Aside (∀ j (h : j < l.length), j < k → l[j] = 0))
  case atStart => exact ⟨rfl, 0, by omega, by omega, rfl, fun j h h' => by omega⟩
  case round =>
    obtain ⟨rfl, k, hk, hg, rfl, Q⟩ := hrel
    by_cases hlt : k < l.length
    · obtain ⟨ad, rfl, hck⟩ := HR.out.byte hlt
      have hlt' : (k : Int) < (l.length : Int) := by omega
      by_cases hz : l[k] = 0
      · have Q2 : Aside (∀ j (h : j < l.length), j < k + 1 → l[j] = 0) := fun j h hj => by
          by_cases e : j < k
          · exact Q.out j h e
          · have : j = k := by omega
            subst this; exact hz
        have h1 : (((l[k]'hlt).toNat : Int) == 0) = true := by rw [hz]; rfl
        have h2 : (((l[k]'hlt).toNat : Int) != 0) = false := by rw [hz]; rfl
        clear hz Q
        go_wp2
        go_roundg (l.length - (k + 1))
        case measure => omega
        case rel => exact ⟨rfl, k + 1, by omega, by omega, by go_num, Q2⟩
      · have F : Hid (b = false) := by
          cases b
          · rfl
          · exact absurd (HB.out.1 rfl k hlt) hz
        have h1 : (((l[k]'hlt).toNat : Int) == 0) = false := by rw [beq_c (d := 0) (n := 0) rfl]; simpa using hz
        have h2 : (((l[k]'hlt).toNat : Int) != 0) = true := by rw [bne_c (d := 0) (n := 0) rfl]; simpa using hz
        clear hz Q
        go_wp2
        go_ret
        exact ⟨ret_bool F.out.symm, rfl⟩
    · have F : Hid (b = true) := HB.out.2 fun j h => Q.out j h (by omega)
      clear Q
      go_wp2
      go_ret
      exact ⟨ret_bool F.out.symm, rfl⟩

theorem Rd.sub {w : World} {A : Option Addr} {l : List UInt8} (h : Rd w A (u8s l)) (n : Nat) : Rd w A (u8s (l.take n)) := fun i v hv => by
  refine h i v ?_
  unfold u8s at hv ⊢
  rw [List.map_take, List.getElem?_take] at hv
  split at hv
  · exact hv
  · cases hv
theorem ret_v {a b : Value} (h : a = b) : Ending.returned a = .returned b := by rw [h]
/-- What To4 hands back of a good address: itself at 4 bytes, else nil. -/
def to4V (A : Option Addr) (n c : Nat) : Value := if n = 4 then .slice A n c else .slice none 0 0
set_option maxHeartbeats 1000000 in
theorem to4_any (A : Option Addr) (n c : Nat) (l : List UInt8) (w : World) (hn : n = l.length) (hc : n ≤ c) (hr : Rd w A (u8s l)) (ha : AddrOk l) :
    Calls Try.prog 53 #[.slice A n c] w (Same (to4V A n c) w) := by
  subst hn
  by_cases h4 : l.length = 4
  · have F : Hid (to4V A l.length c = .slice A l.length c) := by
      show _ = _
      unfold to4V; rw [if_pos h4]
    have h4' : ((l.length : Int) == 4) = true := by rw [h4]; rfl
    clear ha h4 hr
    go_enter Try.func53, Try.ntmps53
    go_wp2
    go_ret
    exact ⟨ret_v F.out.symm, rfl⟩
  have F : Hid (to4V A l.length c = .slice none 0 0) := by
    show _ = _
    unfold to4V; rw [if_neg h4]
  obtain ⟨h16, hv⟩ := ha.resolve_left h4
  have h4' : ((l.length : Int) == 4) = false := by rw [beq_eq_false_iff_ne]; omega
  have h16' : ((l.length : Int) == 16) = true := by rw [h16]; rfl
  have p10 : 10 < l.length := by omega
  have p11 : 11 < l.length := by omega
  have hc16 : 16 ≤ c := by omega
  have hl16 : 16 ≤ l.length := by omega
  obtain ⟨ad, rfl, hc10⟩ := hr.byte p10
  obtain ⟨ad', e, hc11⟩ := hr.byte p11
  obtain rfl := Option.some.inj e
  rw [show ad.add 10 = ⟨ad.block, ad.off + 10, none⟩ by simp [Addr.add]] at hc10
  rw [show ad.add 11 = ⟨ad.block, ad.off + 11, none⟩ by simp [Addr.add]] at hc11
  have hlen : (l.take 10).length = 10 := by rw [List.length_take]; omega
  have HZ : ∀ b : Bool, (b = true ↔ ∀ j (h : j < l.length), j < 10 → l[j] = 0) → Calls Try.prog 58 #[.slice (some ad) 10 c] w (Same (.bool b) w) := fun b hb =>
    isZeros_any (some ad) 10 c (l.take 10) w hlen.symm (by omega) (hr.sub 10) b (hb.trans ⟨fun h j hj => by rw [List.getElem_take]; exact h j (by omega) (by omega), fun h j hj hj2 => by have := h j (by omega); rwa [List.getElem_take] at this⟩)
  have HV := Lib.hid hv
  clear e h4 h16 hv hr hlen
  by_cases hz : ∀ j (h : j < l.length), j < 10 → l[j] = 0
  · have HZ1 := Lib.hid (HZ true ⟨fun _ => hz, fun _ => rfl⟩)
    clear HZ
    by_cases e10 : l[10]'p10 = 255
    · have e11 : l[11]'p11 ≠ 255 := fun e11 => HV.out ⟨hz, by rw [List.getElem?_eq_getElem p10, e10], by rw [List.getElem?_eq_getElem p11, e11]⟩
      have h1 : (((l[10]'p10).toNat : Int) == 255) = true := by rw [e10]; rfl
      have h2 : (((l[11]'p11).toNat : Int) == 255) = false := by rw [beq_c (d := 255) (n := 255) rfl]; simpa using e11
      clear e10 e11 hz HV
      go_enter Try.func53, Try.ntmps53
      go_wp2_with ((with_reducible refine HZ1.out.mono ?_); rintro e w1 ⟨rfl, rfl⟩)
      go_ret
      exact ⟨ret_v F.out.symm, rfl⟩
    · have h1 : (((l[10]'p10).toNat : Int) == 255) = false := by rw [beq_c (d := 255) (n := 255) rfl]; simpa using e10
      clear e10 hz HV
      go_enter Try.func53, Try.ntmps53
      go_wp2_with ((with_reducible refine HZ1.out.mono ?_); rintro e w1 ⟨rfl, rfl⟩)
      go_ret
      exact ⟨ret_v F.out.symm, rfl⟩
  · have HZ1 := Lib.hid (HZ false ⟨fun e => (by cases e), fun e => absurd e hz⟩)
    clear HZ hz HV
    go_enter Try.func53, Try.ntmps53
    go_wp2_with ((with_reducible refine HZ1.out.mono ?_); rintro e w1 ⟨rfl, rfl⟩)
    go_ret
    exact ⟨ret_v F.out.symm, rfl⟩

/-- A good network for the walks. -/
structure NetG (N : NetA) : Prop where
  a1 : N.ad.length ≤ 2147483647
  len : N.ms.length = N.ad.length
  addr : AddrOk N.ad
  zero : ∀ i (h : i < N.ad.length) (h2 : i < N.ms.length), N.ad[i] &&& N.ms[i] = N.ad[i]
theorem AddrOk.len {l : List UInt8} (h : AddrOk l) : l.length = 4 ∨ l.length = 16 := by
  rcases h with h | h
  · exact .inl h
  · exact .inr h.1
theorem NetGood.zero {ad ms : List UInt8} (h : NetGood ad ms) : ∀ i (h : i < ad.length) (h2 : i < ms.length), ad[i] &&& ms[i] = ad[i] := fun i h1 h2 => by
  have hz := h.2.2.2.2 i h1 h2
  refine UInt8.toNat_inj.1 (Nat.eq_of_testBit_eq fun j => ?_)
  have := congrArg (fun x : UInt8 => x.toNat.testBit j) hz
  simp only [bit_and] at this ⊢
  by_cases e : j < 8
  · rw [bit_not _ e] at this
    cases ha : ad[i].toNat.testBit j
    · simp
    · rw [ha] at this
      cases hm : ms[i].toNat.testBit j
      · rw [hm] at this; simp at this
      · simp
  · rw [Nat.testBit_lt_two_pow (Nat.lt_of_lt_of_le ad[i].toNat_lt (show 2 ^ 8 ≤ 2 ^ j from Nat.pow_le_pow_right (by omega) (by omega)))]; simp
def TwoV (N : NetA) : Value := .tuple #[.slice N.A N.ad.length N.c, .slice N.M N.ms.length N.d]
set_option maxHeartbeats 1000000 in
theorem nnm_any (g : Nat) (N : NetA) (w : World) (hN : NetP w g N) (hg : NetG N) :
    Calls Try.prog 52 #[.pointer (some ⟨g, 0, none⟩)] w (Same (TwoV N) w) := by
  obtain ⟨c0, c1⟩ := hN.cells
  have hl := hg.addr.len
  have HT := Lib.hid (to4_any N.A N.ad.length N.c N.ad w rfl hN.2.2.2.1 hN.2.1 hg.addr)
  have hne : N.ad.length = 4 → N.A = none → False := fun e1 e2 => by
    obtain ⟨ad, e, -⟩ := hN.2.1.byte (i := 0) (by omega)
    rw [e] at e2; cases e2
  have hE := Lib.hid (fun wx a n c n' c' => Lib.run_eql_slice_nil (P := Try.prog) wx 53 5 a n c n' c' Try.underlying53)
  have hml := hg.len
  unfold TwoV
  rcases hl with hl | hl
  · obtain ⟨ad, hA⟩ : ∃ ad, N.A = some ad := by
      cases h : N.A with
      | none => exact absurd h (fun e => hne hl e)
      | some ad => exact ⟨ad, rfl⟩
    have hT : to4V N.A N.ad.length N.c = .slice (some ad) N.ad.length N.c := by unfold to4V; rw [if_pos hl, hA]
    rw [hT] at HT
    have F : Hid (N.A = some ad) := hA
    have h1 : ((N.ad.length : Int) == 4) = true := by rw [hl]; rfl
    have h1' : ((N.ad.length : Int) != 4) = false := by rw [hl]; rfl
    have h2 : ((N.ms.length : Int) == 4) = true := by rw [hml, hl]; rfl
    have he := hE.out
    clear hT hA hne hl hml hg hN
    go_enter Try.func52, Try.ntmps52
    go_wp2_with ((with_reducible refine HT.out.mono ?_); rintro e w1 ⟨rfl, rfl⟩)
    go_ret2
    exact ⟨ret_v (by rw [F.out]; rfl), rfl⟩
  · have hT : to4V N.A N.ad.length N.c = .slice none 0 0 := by unfold to4V; rw [if_neg (by omega)]
    rw [hT] at HT
    have h1 : ((N.ad.length : Int) == 4) = false := by rw [hl]; rfl
    have h3 : ((N.ad.length : Int) == 16) = true := by rw [hl]; rfl
    have h3' : ((N.ad.length : Int) != 16) = false := by rw [hl]; rfl
    have h2 : ((N.ms.length : Int) == 4) = false := by rw [hml, hl]; rfl
    have h4 : ((N.ms.length : Int) == 16) = true := by rw [hml, hl]; rfl
    have he := hE.out
    clear hT hne hl hml hg hN
    go_enter Try.func52, Try.ntmps52
    go_wp2_with ((with_reducible refine HT.out.mono ?_); rintro e w1 ⟨rfl, rfl⟩)
    go_ret2
    exact ⟨rfl, rfl⟩
end Go.Proofs.Ytgaolfbbfdojjaa
