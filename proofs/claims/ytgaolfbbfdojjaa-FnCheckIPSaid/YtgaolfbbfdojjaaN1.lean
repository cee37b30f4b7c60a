/-
  Rows of bytes and networks as arguments: what they read as; walks: zzFits2, spec.AddressOk, laws.beyond.
-/
import Derived.Test.YtgaolfbbfdojjaaBase
import Derived.Test.YtgaolfbbfdojjaaPlain
import Derived.Lib.SmallJoins
import Derived.BigGuardPart
namespace Go.Proofs.Ytgaolfbbfdojjaa
open Go.ChangeShapes Go.WideShapes Go.ChangeAt Go.RowKit

def Ret (v : Value) (w : World) (e : Ending) (w' : World) : Prop := e = .returned v ∧ Below w.heap.size w w'
def u8s (l : List UInt8) : List Value := l.map fun c => Value.int .u8 (c.toNat : Int)
theorem u8s_length (l : List UInt8) : (u8s l).length = l.length := by simp [u8s]
theorem u8s_get {l : List UInt8} {i : Nat} (h : i < l.length) : (u8s l)[i]? = some (.int .u8 ((l[i]).toNat : Int)) := by
  unfold u8s
  rw [List.getElem?_map, List.getElem?_eq_getElem h]
  rfl
theorem beq_c {c d : UInt8} {n : Int} (hd : (d.toNat : Int) = n) : ((c.toNat : Int) == n) = (c == d) := by
  rw [← hd, Bool.eq_iff_iff]
  simp only [beq_iff_eq]
  exact ⟨fun h => UInt8.toNat_inj.1 (by omega), fun h => by rw [h]⟩
theorem bne_c {c d : UInt8} {n : Int} (hd : (d.toNat : Int) = n) : ((c.toNat : Int) != n) = (c != d) := by
  unfold bne
  rw [beq_c hd]
theorem cell_lt {w : World} {a : Addr} {v : Value} (h : w.cell? a = some v) : a.block < w.heap.size := by
  rcases Nat.lt_or_ge a.block w.heap.size with hlt | hge
  · exact hlt
  · unfold World.cell? at h
    rw [Array.getElem?_eq_none hge] at h
    cases h
theorem Rd.byte {w : World} {A : Option Addr} {l : List UInt8} (h : Rd w A (u8s l)) {i : Nat} (hi : i < l.length) : ∃ ad, A = some ad ∧ w.cell? (ad.add i) = some (.int .u8 ((l[i]).toNat : Int)) := by
  obtain ⟨ad, e, -, hc⟩ := h i _ (u8s_get hi)
  exact ⟨ad, e, hc⟩

/-! ### ARGUMENTS OPENED -/
theorem cells_u8 : Try.prog.cellsOf 5 = 1 := by kernel_rfl
theorem wf_u8 {n : Int} (h : (Lit.int .u8 n).wf = true) : 0 ≤ n ∧ n < 256 := by
  have e1 : IntKind.u8.min = 0 := by decide
  have e2 : IntKind.u8.max = 255 := by decide
  simp [Lit.wf, e1, e2] at h
  omega
theorem open_row {H : Type} {enc : TypeId × Value → H} {W : World} {sp : Nat → Bool} {fuel : Nat} {cs : List Value} {x : DataW H × List MemPlace} (hf : DataW.trod enc Try.prog W 0 sp true fuel 22 cs = some x) :
    ∃ (A : Option Addr) (c : Nat) (bs : List UInt8), cs = [.slice A bs.length c] ∧ bs.length ≤ c ∧ c ≤ maxLen ∧ (A = none → c = 0) ∧ Rd W A (u8s bs) := by
  rcases open_ints Try.underlying22 Try.underlying5 cells_u8 hf with ⟨rfl, -⟩ | ⟨a, n, c, zs, rfl, -, hl, hm, hz, -, hcell, hws⟩
  · exact ⟨none, 0, [], rfl, Nat.le_refl _, by unfold maxLen; omega, fun _ => rfl, Rd.nil _ _⟩
  · have hsl : n ≤ zs.length := by rw [hz]; split <;> omega
    have hlen : ((zs.take n).map fun z => UInt8.ofNat z.toNat).length = n := by rw [List.length_map, List.length_take]; omega
    refine ⟨some a, c, (zs.take n).map fun z => UInt8.ofNat z.toNat, by rw [hlen], by omega, hm, fun h => (by cases h), fun i v hv => ?_⟩
    have hi : i < n := by
      have := (List.getElem?_eq_some_iff.1 hv).1
      rw [u8s_length, hlen] at this
      exact this
    rw [u8s_get (by rw [hlen]; exact hi)] at hv
    obtain rfl := Option.some.inj hv
    have hi2 : i < zs.length := by omega
    have hc := hcell i hi2
    have hw := wf_u8 (hws zs[i] (List.getElem_mem hi2))
    have e : (((zs.take n).map fun z => UInt8.ofNat z.toNat)[i]'(by rw [hlen]; exact hi)).toNat = (zs.getD i 0).toNat := by
      rw [List.getElem_map, List.getElem_take, List.getD, List.getElem?_eq_getElem hi2]
      simp only [Option.getD_some, UInt8.toNat_ofNat']
      omega
    have e2 : zs.getD i 0 = zs[i] := by rw [List.getD, List.getElem?_eq_getElem hi2]; rfl
    have e3 : (Value.int .u8 (zs.getD i 0)) = .int .u8 ((((zs.take n).map fun z => UInt8.ofNat z.toNat)[i]'(by rw [hlen]; exact hi)).toNat : Int) := by
      rw [e, e2]
      congr 1
      omega
    rw [e3] at hc
    exact ⟨a, rfl, by have := cell_lt hc; rwa [add_block] at this, hc⟩
set_option maxRecDepth 4000 in
theorem opened_bytes {H : Type} {enc : TypeId × Value → H} {W : World} {sp : Nat → Bool} {base : Nat} {v : Value} {d : DataW H} {p : List MemPlace} (hval : Value.okWide Try.prog W .any base 22 v) (h : DataW.Trod enc Try.prog W 0 sp true 22 v d p) :
    ∃ (A : Option Addr) (n c : Nat) (bs : List UInt8), v = .slice A n c ∧ (n = bs.length ∧ n ≤ c ∧ c ≤ maxLen ∧ (A = none → c = 0) ∧ Rd W A (u8s bs)) := by
  obtain ⟨A, n, c, rfl⟩ := okWide_slice Try.underlying22 hval
  obtain ⟨fuel, hf⟩ := h
  obtain ⟨A', c', bs, hcs, hc1, hc2, hc3, hr⟩ := open_row hf
  simp [Value.cells] at hcs
  obtain ⟨rfl, rfl, rfl⟩ := hcs
  exact ⟨_, _, _, bs, rfl, rfl, hc1, hc2, hc3, hr⟩
/-- A network as it is handed on: its two rows. -/
structure NetA where
  A : Option Addr
  c : Nat
  M : Option Addr
  d : Nat
  ad : List UInt8
  ms : List UInt8
def netV (N : NetA) : Value := .agg #[.slice N.A N.ad.length N.c, .slice N.M N.ms.length N.d]
/-- .. and as it reads. -/
def NetR (W : World) (N : NetA) : Prop := Rd W N.A (u8s N.ad) ∧ Rd W N.M (u8s N.ms) ∧ N.ad.length ≤ N.c ∧ N.c ≤ maxLen ∧ N.ms.length ≤ N.d ∧ N.d ≤ maxLen ∧ (N.A = none → N.c = 0) ∧ (N.M = none → N.d = 0)
theorem NetR.below {w w' : World} {N : NetA} (h : NetR w N) (hb : Below w.heap.size w w') : NetR w' N := ⟨h.1.below hb, h.2.1.below hb, h.2.2⟩
set_option maxRecDepth 4000 in
theorem opened_net {H : Type} {enc : TypeId × Value → H} {W : World} {sp : Nat → Bool} {base : Nat} {v : Value} {d : DataW H} {p : List MemPlace} (hval : Value.okWide Try.prog W .any base 24 v) (h : DataW.Trod enc Try.prog W 0 sp true 24 v d p) :
    ∃ N : NetA, v = netV N ∧ NetR W N := by
  obtain ⟨v0, v1, y0, y1, n, rfl, -, -, h0, h1⟩ := Joins.open_agg2 Try.underlying24 (by kernel_rfl) (by kernel_rfl) hval h
  obtain ⟨A, c, ad, e0, hc1, hc2, hc3, hr⟩ := open_row h0
  obtain ⟨M, c', mk, e1, hd1, hd2, hd3, hs⟩ := open_row h1
  simp only [List.cons.injEq, and_true] at e0 e1
  subst e0
  subst e1
  exact ⟨⟨A, c, M, c', ad, mk⟩, rfl, hr, hs, hc1, hc2, hd1, hd2, hc3, hd3⟩

/-! ### WALKS -/
set_option maxHeartbeats 1000000 in
theorem fits2_any (N : NetA) (h1 : N.ad.length ≤ 9223372036854775807) (h2 : N.ms.length ≤ 9223372036854775807) (w : World) (b : Bool) (hb : b = true ↔ (N.ad.length ≤ 2147483647 ∧ N.ms.length ≤ 2147483647)) :
    Calls Try.prog 8 #[netV N] w (Ret (.bool b) w) := by
  obtain ⟨A, c, M, d, ad, mk⟩ := N
  unfold netV
  simp only at *
  by_cases g0 : 2147483647 < ad.length
  · have F : Hid (b = false) := by
      cases b
      · rfl
      · have := hb.1 rfl; omega
    clear hb
    go_enter Try.func8, Try.ntmps8
    go_wp2
    go_ret
    exact ⟨ret_bool F.out.symm, Below.one _ _⟩
  have g0' : ad.length ≤ 2147483647 := by omega
  clear g0
  by_cases g1 : 2147483647 < mk.length
  · have F : Hid (b = false) := by
      cases b
      · rfl
      · have := hb.1 rfl; omega
    clear hb
    go_enter Try.func8, Try.ntmps8
    go_wp2
    go_ret
    exact ⟨ret_bool F.out.symm, Below.one _ _⟩
  have F : Hid (b = true) := hb.2 (by omega)
  have g1' : mk.length ≤ 2147483647 := by omega
  clear g1 hb
  go_enter Try.func8, Try.ntmps8
  go_wp2
  go_ret
  exact ⟨ret_bool F.out.symm, Below.one _ _⟩

/-- An address of 4 bytes in 16. -/
def V4In (l : List UInt8) : Prop := (∀ j (h : j < l.length), j < 10 → l[j] = 0) ∧ l[10]? = some 255 ∧ l[11]? = some 255
def AddrOk (l : List UInt8) : Prop := l.length = 4 ∨ (l.length = 16 ∧ ¬ V4In l)
set_option maxHeartbeats 1000000 in
theorem addrOk_any (A : Option Addr) (n c : Nat) (l : List UInt8) (w : World) (hn : n = l.length) (hl : n ≤ 9223372036854775807) (hr : Rd w A (u8s l)) (b : Bool) (hb : b = true ↔ AddrOk l) :
    Calls Try.prog 16 #[.slice A n c] w (Ret (.bool b) w) := by
  subst hn
  by_cases h4 : l.length = 4
  · have F : Hid (b = true) := hb.2 (.inl h4)
    have h4' : ((l.length : Int) == 4) = true := by rw [h4]; rfl
    clear hb h4 hr
    go_enter Try.func16, Try.ntmps16
    go_wp2
    go_ret
    exact ⟨ret_bool F.out.symm, Below.refl _ _⟩
  have h4' : ((l.length : Int) == 4) = false := by rw [beq_eq_false_iff_ne]; omega
  by_cases h16 : l.length = 16
  rotate_left
  · have F : Hid (b = false) := by
      cases b
      · rfl
      · rcases hb.1 rfl with h | h
        · exact absurd h h4
        · exact absurd h.1 h16
    have h16' : ((l.length : Int) == 16) = false := by rw [beq_eq_false_iff_ne]; omega
    have h16'' : ((l.length : Int) != 16) = true := by rw [bne_iff_ne]; omega
    clear hb h4 h16 hr
    go_enter Try.func16, Try.ntmps16
    go_wp2
    go_ret
    exact ⟨ret_bool F.out.symm, Below.refl _ _⟩
  have h16' : ((l.length : Int) == 16) = true := by rw [h16]; rfl
  have h16'' : ((l.length : Int) != 16) = false := by rw [h16]; rfl
  have HB : Hid (b = true ↔ ¬ V4In l) := by
    show _ ↔ _
    rw [hb]
    exact ⟨fun h => by rcases h with h | h; exact absurd h h4; exact h.2, fun h => .inr ⟨h16, h⟩⟩
  have hlt16 : 16 ≤ l.length := by omega
  have p10 : 10 < l.length := by omega
  have p11 : 11 < l.length := by omega
  have HR := Lib.hid hr
  obtain ⟨ad, rfl, hc10⟩ := hr.byte p10
  obtain ⟨ad', e, hc11⟩ := hr.byte p11
  obtain rfl := Option.some.inj e
  rw [show ad.add 10 = ⟨ad.block, ad.off + 10, none⟩ by simp [Addr.add]] at hc10
  rw [show ad.add 11 = ⟨ad.block, ad.off + 11, none⟩ by simp [Addr.add]] at hc11
  clear hb h4 h16 hr e
  have g10 : l[10]? = some (l[10]'p10) := List.getElem?_eq_getElem _
  have g11 : l[11]? = some (l[11]'p11) := List.getElem?_eq_getElem _
  have G10 := Lib.hid g10
  have G11 := Lib.hid g11
  clear g10 g11
  go_enter Try.func16, Try.ntmps16
  go_wp2
  go_loopg [10] 10 (fun kx i wr => w = wr ∧ ∃ k : Nat, k ≤ 10 ∧ 10 - k ≤ kx ∧ i = .int .i64 k ∧ Aside (∀ j (h : j < l.length), j < k → l[j] = 0))
  case atStart => exact ⟨rfl, 0, by omega, by omega, rfl, fun j h h' => by omega⟩
  case round =>
    obtain ⟨rfl, k, hk, hg, rfl, Q⟩ := hrel
    by_cases hlt : k < 10
    · have hkl : k < l.length := by omega
      obtain ⟨ad', e, hck⟩ := HR.out.byte hkl
      obtain rfl := Option.some.inj e
      clear e
      by_cases hz : l[k] = 0
      · have Q2 : Aside (∀ j (h : j < l.length), j < k + 1 → l[j] = 0) := fun j h hj => by
          by_cases e : j < k
          · exact Q.out j h e
          · have : j = k := by omega
            subst this; exact hz
        have h1 : (((l[k]'hkl).toNat : Int) == 0) = true := by rw [hz]; rfl
        have h2 : (((l[k]'hkl).toNat : Int) != 0) = false := by rw [hz]; rfl
        clear hz Q
        go_wp2
        go_roundg (10 - (k + 1))
        case measure => omega
        case rel => exact ⟨rfl, k + 1, by omega, by omega, by go_num, Q2⟩
      · have F : Hid (b = true) := HB.out.2 (fun h => hz (h.1 k hkl hlt))
        have h1 : (((l[k]'hkl).toNat : Int) == 0) = false := by rw [beq_c (d := 0) (n := 0) rfl]; simpa using hz
        have h2 : (((l[k]'hkl).toNat : Int) != 0) = true := by rw [bne_c (d := 0) (n := 0) rfl]; simpa using hz
        clear hz Q
        go_wp2
        go_ret
        exact ⟨ret_bool F.out.symm, Below.refl _ _⟩
    · have hz : ∀ j (h : j < l.length), j < 10 → l[j] = 0 := fun j h hj => Q.out j h (by omega)
      by_cases e10 : l[10]'p10 = 255
      · have h1 : (((l[10]'p10).toNat : Int) == 255) = true := by rw [e10]; rfl
        have h2 : (((l[10]'p10).toNat : Int) != 255) = false := by rw [e10]; rfl
        by_cases e11 : l[11]'p11 = 255
        · have F : Hid (b = false) := by
            cases b
            · rfl
            · exact absurd ⟨hz, by rw [G10.out, e10], by rw [G11.out, e11]⟩ (HB.out.1 rfl)
          have h3 : (((l[11]'p11).toNat : Int) == 255) = true := by rw [e11]; rfl
          have h4 : (((l[11]'p11).toNat : Int) != 255) = false := by rw [e11]; rfl
          clear e10 e11 hz Q
          go_wp2
          go_ret
          exact ⟨ret_bool F.out.symm, Below.refl _ _⟩
        · have F : Hid (b = true) := HB.out.2 (fun h => e11 (by have := h.2.2; rw [G11.out] at this; exact Option.some.inj this))
          have h3 : (((l[11]'p11).toNat : Int) == 255) = false := by rw [beq_c (d := 255) (n := 255) rfl]; simpa using e11
          have h4 : (((l[11]'p11).toNat : Int) != 255) = true := by rw [bne_c (d := 255) (n := 255) rfl]; simpa using e11
          clear e10 e11 hz Q
          go_wp2
          go_ret
          exact ⟨ret_bool F.out.symm, Below.refl _ _⟩
      · have F : Hid (b = true) := HB.out.2 (fun h => e10 (by have := h.2.1; rw [G10.out] at this; exact Option.some.inj this))
        have h1 : (((l[10]'p10).toNat : Int) == 255) = false := by rw [beq_c (d := 255) (n := 255) rfl]; simpa using e10
        have h2 : (((l[10]'p10).toNat : Int) != 255) = true := by rw [bne_c (d := 255) (n := 255) rfl]; simpa using e10
        clear e10 hz Q
        go_wp2
        go_ret
        exact ⟨ret_bool F.out.symm, Below.refl _ _⟩
end Go.Proofs.Ytgaolfbbfdojjaa
