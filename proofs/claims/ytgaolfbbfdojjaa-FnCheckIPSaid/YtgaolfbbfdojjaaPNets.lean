/-
  The plain law of networks: bits, the order of rows of bytes, one network in another one. No condition.
-/
import Derived.Test.YtgaolfbbfdojjaaN6
import Derived.Test.YtgaolfbbfdojjaaPSet
namespace Go.Proofs.Ytgaolfbbfdojjaa

theorem compareBytes_neg : ∀ a b : List UInt8, Lib.compareBytes a b = - Lib.compareBytes b a
  | [], [] => rfl
  | [], _ :: _ => rfl
  | _ :: _, [] => rfl
  | x :: r, y :: s => by
    unfold Lib.compareBytes
    by_cases h1 : x < y
    · have h2 : ¬ y < x := fun h => by
        rw [UInt8.lt_iff_toNat_lt] at h h1; omega
      rw [if_pos h1, if_neg h2, if_pos h1]
    · by_cases h2 : y < x
      · rw [if_neg h1, if_pos h2, if_pos h2]; rfl
      · rw [if_neg h1, if_neg h2, if_neg h2, if_neg h1]; exact compareBytes_neg r s
theorem compareBytes_self : ∀ a : List UInt8, Lib.compareBytes a a = 0
  | [] => rfl
  | x :: r => by
    unfold Lib.compareBytes
    have h : ¬ x < x := fun h => by rw [UInt8.lt_iff_toNat_lt] at h; omega
    rw [if_neg h, if_neg h]; exact compareBytes_self r
theorem compareBytes_zero : ∀ a b : List UInt8, Lib.compareBytes a b = 0 → a = b
  | [], [], _ => rfl
  | [], _ :: _, h => by simp [Lib.compareBytes] at h
  | _ :: _, [], h => by simp [Lib.compareBytes] at h
  | x :: r, y :: s, h => by
    unfold Lib.compareBytes at h
    by_cases h1 : x < y
    · rw [if_pos h1] at h; omega
    · by_cases h2 : y < x
      · rw [if_neg h1, if_pos h2] at h; omega
      · rw [if_neg h1, if_neg h2] at h
        rw [UInt8.lt_iff_toNat_lt] at h1 h2
        rw [compareBytes_zero r s h, UInt8.toNat_inj.1 (show x.toNat = y.toNat by omega)]
theorem compareBytes_le_trans : ∀ a b c : List UInt8, Lib.compareBytes a b ≤ 0 → Lib.compareBytes b c ≤ 0 → Lib.compareBytes a c ≤ 0 ∧ (Lib.compareBytes b c < 0 → Lib.compareBytes a c < 0) ∧ (Lib.compareBytes a b < 0 → Lib.compareBytes a c < 0)
  | [], [], [], _, _ => by simp [Lib.compareBytes]
  | [], [], _ :: _, _, _ => by simp [Lib.compareBytes]
  | [], _ :: _, [], _, h => by simp [Lib.compareBytes] at h
  | [], _ :: _, _ :: _, _, _ => by simp [Lib.compareBytes]
  | _ :: _, [], _, h, _ => by simp [Lib.compareBytes] at h
  | _ :: _, _ :: _, [], _, h => by simp [Lib.compareBytes] at h
  | x :: r, y :: s, z :: t, h, k => by
    have ih := compareBytes_le_trans r s t
    unfold Lib.compareBytes at h k ⊢
    simp only [UInt8.lt_iff_toNat_lt] at h k ⊢
    by_cases h1 : x.toNat < y.toNat
    · by_cases k1 : y.toNat < z.toNat
      · rw [if_pos (show x.toNat < z.toNat by omega)]; omega
      · by_cases k2 : z.toNat < y.toNat
        · rw [if_neg k1, if_pos k2] at k; omega
        · rw [if_pos (show x.toNat < z.toNat by omega)]; omega
    · by_cases h2 : y.toNat < x.toNat
      · rw [if_neg h1, if_pos h2] at h; omega
      · rw [if_neg h1, if_neg h2] at h
        rw [if_neg h1, if_neg h2]
        by_cases k1 : y.toNat < z.toNat
        · rw [if_pos (show x.toNat < z.toNat by omega)]; omega
        · by_cases k2 : z.toNat < y.toNat
          · rw [if_neg k1, if_pos k2] at k; omega
          · rw [if_neg k1, if_neg k2] at k ⊢
            rw [if_neg (show ¬ x.toNat < z.toNat by omega), if_neg (show ¬ z.toNat < x.toNat by omega)]
            exact ih h k

/-! ### BITS -/
theorem lt_of_bit {x y : Nat} (i : Nat) (hx : x.testBit i = false) (hy : y.testBit i = true) (h : ∀ j, i < j → x.testBit j = y.testBit j) : x < y := by
  have e : x / 2 ^ (i + 1) = y / 2 ^ (i + 1) := Nat.eq_of_testBit_eq fun j => by
    rw [Nat.testBit_div_two_pow, Nat.testBit_div_two_pow]
    exact h _ (by omega)
  rw [Nat.testBit_eq_decide_div_mod_eq] at hx hy
  simp only [decide_eq_false_iff_not, decide_eq_true_eq] at hx hy
  have e1 : x / 2 ^ i / 2 = y / 2 ^ i / 2 := by rw [Nat.div_div_eq_div_mul, Nat.div_div_eq_div_mul, ← Nat.pow_succ]; exact e
  rcases Nat.lt_or_ge x y with h | h
  · exact h
  · have := Nat.div_le_div_right (c := 2 ^ i) h
    omega
theorem bitB_lo (x : UInt8) (r : List UInt8) {i : Nat} (h : i < 8) : bitB (x :: r) i = x.toNat.testBit (7 - i) := by
  unfold bitB
  rw [show i / 8 = 0 by omega, show i % 8 = i by omega]; rfl
theorem bitB_hi (x : UInt8) (r : List UInt8) (i : Nat) : bitB (x :: r) (i + 8) = bitB r i := by
  unfold bitB
  rw [show (i + 8) / 8 = i / 8 + 1 by omega, show (i + 8) % 8 = i % 8 by omega]
  rfl
/-- The first bit that parts decides. -/
theorem first_bit : ∀ (a b : List UInt8) (i : Nat), a.length = b.length → i < 8 * a.length → (∀ j, j < i → bitB a j = bitB b j) → bitB a i = false → bitB b i = true → Lib.compareBytes a b < 0
  | [], b, i, _, hi, _, _, _ => by simp at hi
  | x :: r, [], i, h, _, _, _, _ => by simp at h
  | x :: r, y :: s, i, h, hi, hj, h0, h1 => by
    unfold Lib.compareBytes
    by_cases h8 : i < 8
    · have hlt : x.toNat < y.toNat := by
        rw [bitB_lo x r h8] at h0
        rw [bitB_lo y s h8] at h1
        refine lt_of_bit (7 - i) h0 h1 fun j hj2 => ?_
        by_cases e : j < 8
        · have := hj (7 - j) (by omega)
          rw [bitB_lo x r (by omega), bitB_lo y s (by omega), show 7 - (7 - j) = j by omega] at this
          exact this
        · rw [Nat.testBit_lt_two_pow (Nat.lt_of_lt_of_le x.toNat_lt (show 2 ^ 8 ≤ 2 ^ j from Nat.pow_le_pow_right (by omega) (by omega))), Nat.testBit_lt_two_pow (Nat.lt_of_lt_of_le y.toNat_lt (show 2 ^ 8 ≤ 2 ^ j from Nat.pow_le_pow_right (by omega) (by omega)))]
      rw [if_pos (UInt8.lt_iff_toNat_lt.2 hlt)]; omega
    · have hxy : x.toNat = y.toNat := by
        refine Nat.eq_of_testBit_eq fun j => ?_
        by_cases e : j < 8
        · have := hj (7 - j) (by omega)
          rw [bitB_lo x r (by omega), bitB_lo y s (by omega), show 7 - (7 - j) = j by omega] at this
          exact this
        · rw [Nat.testBit_lt_two_pow (Nat.lt_of_lt_of_le x.toNat_lt (show 2 ^ 8 ≤ 2 ^ j from Nat.pow_le_pow_right (by omega) (by omega))), Nat.testBit_lt_two_pow (Nat.lt_of_lt_of_le y.toNat_lt (show 2 ^ 8 ≤ 2 ^ j from Nat.pow_le_pow_right (by omega) (by omega)))]
      rw [if_neg (fun e => by rw [UInt8.lt_iff_toNat_lt] at e; omega), if_neg (fun e => by rw [UInt8.lt_iff_toNat_lt] at e; omega)]
      obtain ⟨k, rfl⟩ : ∃ k, i = k + 8 := ⟨i - 8, by omega⟩
      rw [bitB_hi] at h0 h1
      refine first_bit r s k (by simpa using h) (by simp at hi; omega) (fun j hjk => ?_) h0 h1
      have := hj (j + 8) (by omega)
      rwa [bitB_hi, bitB_hi] at this
theorem bitB_ext {a b : List UInt8} (h : a.length = b.length) (hb : ∀ i, i < 8 * a.length → bitB a i = bitB b i) : a = b := by
  refine List.ext_getElem h fun k h1 h2 => ?_
  refine UInt8.toNat_inj.1 (Nat.eq_of_testBit_eq fun j => ?_)
  by_cases e : j < 8
  · have := hb (8 * k + (7 - j)) (by omega)
    rw [bitB_at (show (8 * k + (7 - j)) / 8 < a.length by omega), bitB_at (show (8 * k + (7 - j)) / 8 < b.length by omega)] at this
    simp only [show (8 * k + (7 - j)) / 8 = k by omega, show 7 - (8 * k + (7 - j)) % 8 = j by omega] at this
    exact this
  · rw [Nat.testBit_lt_two_pow (Nat.lt_of_lt_of_le a[k].toNat_lt (show 2 ^ 8 ≤ 2 ^ j from Nat.pow_le_pow_right (by omega) (by omega))), Nat.testBit_lt_two_pow (Nat.lt_of_lt_of_le b[k].toNat_lt (show 2 ^ 8 ≤ 2 ^ j from Nat.pow_le_pow_right (by omega) (by omega)))]
/-- Whether two rows part in one of their first n bits, and where first. -/
theorem part_at (f g : Nat → Bool) : ∀ n : Nat, (∀ i, i < n → f i = g i) ∨ ∃ i, i < n ∧ (∀ j, j < i → f j = g j) ∧ f i ≠ g i
  | 0 => .inl fun i h => by omega
  | n + 1 => by
    rcases part_at f g n with h | ⟨i, h1, h2, h3⟩
    · by_cases e : f n = g n
      · exact .inl fun i hi => by
          by_cases e2 : i < n
          · exact h i e2
          · rw [show i = n by omega]; exact e
      · exact .inr ⟨n, by omega, h, e⟩
    · exact .inr ⟨i, by omega, h2, h3⟩

/-! ### NETWORKS -/
theorem bit_and (x y : UInt8) (j : Nat) : (x &&& y).toNat.testBit j = (x.toNat.testBit j && y.toNat.testBit j) := by
  rw [UInt8.toNat_and, Nat.testBit_and]
theorem bit_not (x : UInt8) {j : Nat} (h : j < 8) : (~~~x).toNat.testBit j = !x.toNat.testBit j := by
  have e : (~~~x).toNat = 2 ^ 8 - (x.toNat + 1) := by rw [UInt8.toNat_not]; show 256 - 1 - x.toNat = _; omega
  rw [e, Nat.testBit_two_pow_sub_succ x.toNat_lt]
  simp [h]
/-- A good network's mask has n ones, and the address has noughts behind. -/
structure NetF (ad ms : List UInt8) (n : Nat) : Prop where
  len : ms.length = ad.length
  mask : MaskN ms n
  zero : ∀ i, n ≤ i → i < 8 * ad.length → bitB ad i = false
theorem NetGood.form {ad ms : List UInt8} (h : NetGood ad ms) : ∃ n, NetF ad ms n := by
  obtain ⟨-, h2, ⟨n, hn⟩, -, h5⟩ := h
  refine ⟨n, h2, hn, fun i hi hl => ?_⟩
  have k1 : i / 8 < ad.length := by omega
  have k2 : i / 8 < ms.length := by omega
  have hz := h5 (i / 8) k1 k2
  have hm := hn.2 i (by omega)
  rw [bitB_at k2, decide_eq_false (by omega)] at hm
  rw [bitB_at k1]
  have := congrArg (fun x : UInt8 => x.toNat.testBit (7 - i % 8)) hz
  simp only [bit_and] at this
  rw [bit_not _ (by omega), hm] at this
  simpa using this
theorem NetF.inN {ad ms : List UInt8} {n : Nat} (h : NetF ad ms n) (s : List UInt8) : InN ad ms s ↔ s.length = ad.length ∧ ∀ i, i < n → bitB s i = bitB ad i := by
  have hn := h.mask.1
  have hl := h.len
  constructor
  · rintro ⟨e, hs⟩
    refine ⟨e, fun i hi => ?_⟩
    have k1 : i / 8 < s.length := by omega
    have k2 : i / 8 < ad.length := by omega
    have k3 : i / 8 < ms.length := by omega
    have := hs (i / 8) k1 k2 k3
    rw [bitB_at k1, bitB_at k2, ← this, bit_and, ← bitB_at k3, h.mask.2 i (by omega), decide_eq_true hi, Bool.and_true]
  · rintro ⟨e, hs⟩
    refine ⟨e, fun k h1 h2 h3 => ?_⟩
    refine UInt8.toNat_inj.1 (Nat.eq_of_testBit_eq fun j => ?_)
    by_cases e8 : j < 8
    · have a1 := hs (8 * k + (7 - j))
      have a2 := h.zero (8 * k + (7 - j))
      have a3 := h.mask.2 (8 * k + (7 - j)) (by omega)
      rw [bitB_at (show (8 * k + (7 - j)) / 8 < s.length by omega), bitB_at (show (8 * k + (7 - j)) / 8 < ad.length by omega)] at a1
      rw [bitB_at (show (8 * k + (7 - j)) / 8 < ad.length by omega)] at a2
      rw [bitB_at (show (8 * k + (7 - j)) / 8 < ms.length by omega)] at a3
      simp only [show (8 * k + (7 - j)) / 8 = k by omega, show 7 - (8 * k + (7 - j)) % 8 = j by omega] at a1 a2 a3
      rw [bit_and, a3]
      by_cases hlt : 8 * k + (7 - j) < n
      · rw [decide_eq_true hlt, Bool.and_true]; exact a1 hlt
      · rw [decide_eq_false hlt, Bool.and_false]; exact (a2 (by omega) (by omega)).symm
    · rw [Nat.testBit_lt_two_pow (Nat.lt_of_lt_of_le (s[k] &&& ms[k]).toNat_lt (show 2 ^ 8 ≤ 2 ^ j from Nat.pow_le_pow_right (by omega) (by omega))), Nat.testBit_lt_two_pow (Nat.lt_of_lt_of_le ad[k].toNat_lt (show 2 ^ 8 ≤ 2 ^ j from Nat.pow_le_pow_right (by omega) (by omega)))]
theorem NetF.last {ad ms : List UInt8} {n : Nat} (h : NetF ad ms n) {i : Nat} (hi : i < 8 * ad.length) : bitB (lastL ad ms) i = (bitB ad i || decide (n ≤ i)) := by
  have hl := lastL_length ad ms h.len
  have hl2 := h.len
  have k1 : i / 8 < (lastL ad ms).length := by omega
  have k2 : i / 8 < ad.length := by omega
  have k3 : i / 8 < ms.length := by omega
  have hm := h.mask.2 i (by omega)
  rw [bitB_at k3] at hm
  rw [bitB_at k1, bitB_at k2, lastL_get k2 k3, UInt8.toNat_or, Nat.testBit_or, bit_not _ (by omega), hm]
  congr 1
  rw [Bool.eq_iff_iff]
  simp
/-- One network in another one. -/
def SubN (a b : List UInt8 × List UInt8) : Prop := InN a.1 a.2 b.1 ∧ InN a.1 a.2 (lastL b.1 b.2)
theorem NetF.sub {ad ms bd bs : List UInt8} {n k : Nat} (h : NetF ad ms n) (g : NetF bd bs k) : SubN (ad, ms) (bd, bs) ↔ bd.length = ad.length ∧ n ≤ k ∧ InN ad ms bd := by
  have hll := lastL_length bd bs g.len
  have hn := h.mask.1
  have hl := h.len
  have gl := g.len
  constructor
  · rintro ⟨h1, h2⟩
    refine ⟨h1.1, ?_, h1⟩
    have c1 := (h.inN bd).1 h1
    have c2 := (h.inN _).1 h2
    simp only at c1 c2
    rcases Nat.lt_or_ge k n with hlt | hge
    · exfalso
      have e1 := c1.2 k hlt
      have e2 := c2.2 k hlt
      rw [g.last (by omega), g.zero k (Nat.le_refl _) (by omega), decide_eq_true (Nat.le_refl _)] at e2
      rw [g.zero k (Nat.le_refl _) (by omega)] at e1
      rw [← e1] at e2
      cases e2
    · exact hge
  · rintro ⟨h0, h1, h2⟩
    refine ⟨h2, (h.inN _).2 ⟨by simp only; omega, fun i hi => ?_⟩⟩
    rw [g.last (by omega), decide_eq_false (by omega), Bool.or_false]
    exact ((h.inN bd).1 h2).2 i hi
theorem NetF.self {ad ms : List UInt8} {n : Nat} (h : NetF ad ms n) : InN ad ms ad := (h.inN ad).2 ⟨rfl, fun _ _ => rfl⟩
theorem NetF.trans {ad ms bd bs s : List UInt8} {n k : Nat} (h : NetF ad ms n) (g : NetF bd bs k) (hs : SubN (ad, ms) (bd, bs)) (hi : InN bd bs s) : InN ad ms s := by
  obtain ⟨h1, h2, h3⟩ := (h.sub g).1 hs
  have c1 := (h.inN bd).1 h3
  have c2 := (g.inN s).1 hi
  exact (h.inN s).2 ⟨by omega, fun i hlt => by rw [c2.2 i (by omega), c1.2 i hlt]⟩
/-- An address in a network does not come ahead of it. -/
theorem below_of_in : ∀ (ad s : List UInt8), ad.length = s.length → (∀ i (h : i < ad.length) (h2 : i < s.length), ad[i].toNat ≤ s[i].toNat) → Lib.compareBytes ad s ≤ 0
  | [], [], _, _ => by simp [Lib.compareBytes]
  | [], _ :: _, h, _ => by simp at h
  | _ :: _, [], h, _ => by simp at h
  | x :: r, y :: s, h, hb => by
    have h0 : x.toNat ≤ y.toNat := hb 0 (by simp) (by simp)
    unfold Lib.compareBytes
    simp only [UInt8.lt_iff_toNat_lt]
    by_cases h1 : x.toNat < y.toNat
    · rw [if_pos h1]; omega
    · rw [if_neg h1, if_neg (by omega)]
      refine below_of_in r s (by simpa using h) fun i h1 h2 => ?_
      have := hb (i + 1) (by simp; omega) (by simp; omega)
      simpa using this
theorem InN.above {ad ms s : List UInt8} (hm : ms.length = ad.length) (h : InN ad ms s) : Lib.compareBytes ad s ≤ 0 := by
  refine below_of_in ad s h.1.symm fun i h1 h2 => ?_
  rw [← h.2 i h2 h1 (by omega), UInt8.toNat_and]
  exact Nat.and_le_left
theorem netCmp_le {a b : List UInt8 × List UInt8} (h : netCmp a b ≤ 0) : Lib.compareBytes a.1 b.1 ≤ 0 ∧ (a.1 = b.1 → Lib.compareBytes a.2 b.2 ≤ 0) := by
  unfold netCmp at h
  by_cases e : Lib.compareBytes a.1 b.1 = 0
  · rw [if_pos e] at h; exact ⟨by omega, fun _ => h⟩
  · rw [if_neg e] at h
    exact ⟨h, fun e2 => by rw [e2, compareBytes_self] at e; exact absurd rfl e⟩
/-- In order, with an address of the first behind both: the second lies in the first. -/
theorem sub_between {ad ms bd bs s : List UInt8} {n k : Nat} (h : NetF ad ms n) (g : NetF bd bs k) (hl : bd.length = ad.length) (ho : netCmp (ad, ms) (bd, bs) ≤ 0) (hb : Lib.compareBytes bd s ≤ 0) (hi : InN ad ms s) : SubN (ad, ms) (bd, bs) := by
  obtain ⟨o1, o2⟩ := netCmp_le ho
  simp only at o1 o2
  have hn := h.mask.1
  have hml := h.len
  have gml := g.len
  have c := (h.inN s).1 hi
  have hin : ∀ i, i < n → bitB bd i = bitB ad i := by
    rcases part_at (bitB bd) (bitB ad) n with e | ⟨i, h1, h2, h3⟩
    · exact e
    · exfalso
      cases hbi : bitB bd i
      · have ha : bitB ad i = true := by
          cases ha : bitB ad i
          · rw [hbi, ha] at h3; exact absurd rfl h3
          · rfl
        have := first_bit bd ad i hl (by omega) h2 hbi ha
        rw [compareBytes_neg] at this
        omega
      · have ha : bitB ad i = false := by
          cases ha : bitB ad i
          · rfl
          · rw [hbi, ha] at h3; exact absurd rfl h3
        have := first_bit s bd i (by omega) (by omega) (fun j hj => by rw [c.2 j (by omega), h2 j hj]) (by rw [c.2 i h1]; exact ha) hbi
        rw [compareBytes_neg] at this
        omega
  have hib : InN ad ms bd := (h.inN bd).2 ⟨hl, hin⟩
  refine (h.sub g).2 ⟨hl, ?_, hib⟩
  rcases Nat.lt_or_ge k n with hlt | hge
  · exfalso
    have heq : ad = bd := bitB_ext hl.symm fun i hi2 => by
      by_cases e : i < n
      · exact (hin i e).symm
      · rw [h.zero i (by omega) hi2, g.zero i (by omega) (by omega)]
    have := first_bit bs ms k (by omega) (by omega) (fun j hj => by rw [g.mask.2 j (by omega), h.mask.2 j (by omega), decide_eq_true hj, decide_eq_true (by omega)]) (by rw [g.mask.2 k (by omega)]; exact decide_eq_false (by omega)) (by rw [h.mask.2 k (by omega)]; exact decide_eq_true hlt)
    have o3 := o2 heq
    rw [compareBytes_neg] at this
    omega
  · exact hge
end Go.Proofs.Ytgaolfbbfdojjaa
