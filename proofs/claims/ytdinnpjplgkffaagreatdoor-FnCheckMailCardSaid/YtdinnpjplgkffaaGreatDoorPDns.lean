/-
  The plain law of names as constraints: keys from behind, one name under another one, in which order they stand. No condition.
-/
import Derived.Test.YtdinnpjplgkffaaGreatDoorPCompare
import Derived.Test.YtdinnpjplgkffaaGreatDoorPSet
namespace Go.Proofs.YtdinnpjplgkffaaGreatDoor

/-! ### LISTS OF NUMBERS -/
theorem cmpN_prefix : ∀ p t : List Nat, cmpN p (p ++ t) ≤ 0
  | [], [] => by simp [cmpN]
  | [], _ :: _ => by simp [cmpN]
  | x :: p, t => by
    rw [List.cons_append, cmpN, if_neg (Nat.lt_irrefl x), if_neg (Nat.lt_irrefl x)]
    exact cmpN_prefix p t
theorem cmpN_cons_le {x y : Nat} {p q : List Nat} (h : cmpN (x :: p) (y :: q) ≤ 0) : x < y ∨ (x = y ∧ cmpN p q ≤ 0) := by
  rw [cmpN] at h
  by_cases h1 : x < y
  · exact .inl h1
  · by_cases h2 : y < x
    · rw [if_neg h1, if_pos h2] at h; omega
    · rw [if_neg h1, if_neg h2] at h
      exact .inr ⟨by omega, h⟩
theorem prefix_between : ∀ p x c : List Nat, p <+: c → cmpN p x ≤ 0 → cmpN x c ≤ 0 → p <+: x
  | [], x, _, _, _, _ => ⟨x, rfl⟩
  | h :: p, [], _, _, h1, _ => by simp [cmpN] at h1
  | h :: p, y :: x, [], hp, _, _ => by obtain ⟨t, e⟩ := hp; simp at e
  | h :: p, y :: x, z :: c, hp, h1, h2 => by
    rw [List.cons_prefix_cons] at hp
    obtain ⟨rfl, hp⟩ := hp
    rcases cmpN_cons_le h1 with a | ⟨rfl, a⟩
    · rcases cmpN_cons_le h2 with b | ⟨rfl, b⟩ <;> omega
    · rcases cmpN_cons_le h2 with b | ⟨_, b⟩
      · omega
      · exact List.cons_prefix_cons.2 ⟨rfl, prefix_between p x c hp a b⟩
/-- One key under another one: it stands at its head, and a nought ends it or follows. -/
def KSub (p c : List Nat) : Prop := p <+: c ∧ (p.getLast? = some 0 ∨ p.length = c.length ∨ c[p.length]? = some 0)
theorem KSub.refl (p : List Nat) : KSub p p := ⟨List.prefix_refl p, .inr (.inl rfl)⟩
theorem KSub.le {p c : List Nat} (h : KSub p c) : cmpN p c ≤ 0 := by
  obtain ⟨⟨t, rfl⟩, -⟩ := h
  exact cmpN_prefix p t
theorem KSub.trans {p q c : List Nat} (h : KSub p q) (k : KSub q c) : KSub p c := by
  obtain ⟨h1, h2⟩ := h
  obtain ⟨k1, k2⟩ := k
  refine ⟨h1.trans k1, ?_⟩
  rcases h2 with h2 | h2 | h2
  · exact .inl h2
  · obtain rfl : p = q := h1.eq_of_length h2
    exact k2
  · right; right
    have hl : p.length < q.length := (List.getElem?_eq_some_iff.1 h2).1
    obtain ⟨t, rfl⟩ := k1
    rw [List.getElem?_append_left hl]; exact h2
theorem KSub.between {p x c : List Nat} (h : KSub p c) (h1 : cmpN p x ≤ 0) (h2 : cmpN x c ≤ 0) : KSub p x := by
  obtain ⟨k1, k2⟩ := h
  have hp := prefix_between p x c k1 h1 h2
  refine ⟨hp, ?_⟩
  rcases k2 with k2 | k2 | k2
  · exact .inl k2
  · obtain rfl : p = c := k1.eq_of_length k2
    have e : cmpN x p = 0 := by have := cmpN_neg p x; omega
    rw [(cmpN_zero x p).1 e]
    exact .inr (.inl rfl)
  · obtain ⟨t, rfl⟩ := hp
    cases t with
    | nil => simp
    | cons z t =>
      right; right
      obtain ⟨u, rfl⟩ := k1
      rw [List.getElem?_append_right (Nat.le_refl _), Nat.sub_self] at k2 ⊢
      cases u with
      | nil => simp at k2
      | cons v u =>
        simp at k2
        subst k2
        have h3 : ∀ p : List Nat, cmpN (p ++ z :: t) (p ++ 0 :: u) ≤ 0 → z = 0 := by
          intro p
          induction p with
          | nil =>
            intro h
            rcases cmpN_cons_le h with a | ⟨a, -⟩ <;> omega
          | cons y p ih =>
            intro h
            rcases cmpN_cons_le h with a | ⟨-, a⟩
            · omega
            · exact ih a
        simp [h3 p h2]

/-! ### NAMES -/
/-- Dots, letters, digits, hyphens. -/
def NameBytes (l : List UInt8) : Prop := ∀ c ∈ l, c = 46 ∨ okByte c.toNat = true
theorem tabF_zero {c : UInt8} (h : c = 46 ∨ okByte c.toNat = true) : tabF c.toNat = 0 ↔ c = 46 := by
  rcases h with rfl | h
  · simp [tabF]
  · have hn : c ≠ 46 := by
      rintro rfl
      rw [show (46 : UInt8).toNat = 46 from rfl] at h
      exact absurd h (by decide)
    have hn2 : c.toNat ≠ 46 := fun e => hn (UInt8.toNat_inj.1 e)
    unfold tabF
    rw [if_neg hn2]
    refine ⟨fun e => ?_, fun e => absurd e hn⟩
    unfold okByte at h
    rw [e] at h
    exact absurd h (by decide)
theorem tabF_low {c d : UInt8} (hc : c = 46 ∨ okByte c.toNat = true) (hd : d = 46 ∨ okByte d.toNat = true) : tabF c.toNat = tabF d.toNat ↔ lowB c = lowB d := by
  by_cases h1 : c = 46
  · subst h1
    rw [show tabF (46 : UInt8).toNat = 0 from rfl, eq_comm, tabF_zero hd]
    constructor
    · rintro rfl; rfl
    · intro h
      have := congrArg UInt8.toNat h
      rw [lowB_toNat, lowB_toNat] at this
      refine UInt8.toNat_inj.1 ?_
      rw [show low (46 : UInt8).toNat = 46 from rfl] at this
      show d.toNat = 46
      unfold low at this
      split at this <;> omega
  · by_cases h2 : d = 46
    · subst h2
      rw [show tabF (46 : UInt8).toNat = 0 from rfl, tabF_zero hc]
      constructor
      · intro h; exact absurd h h1
      · intro h
        have := congrArg UInt8.toNat h
        rw [lowB_toNat, lowB_toNat, show low (46 : UInt8).toNat = 46 from rfl] at this
        refine UInt8.toNat_inj.1 ?_
        show c.toNat = 46
        unfold low at this
        split at this <;> omega
    · have e1 : c.toNat ≠ 46 := fun e => h1 (UInt8.toNat_inj.1 e)
      have e2 : d.toNat ≠ 46 := fun e => h2 (UInt8.toNat_inj.1 e)
      unfold tabF
      rw [if_neg e1, if_neg e2, ← lowB_toNat, ← lowB_toNat]
      exact UInt8.toNat_inj
theorem key_length (l : List UInt8) : (key l).length = l.length := by simp [key]
theorem key_append (a b : List UInt8) : key (a ++ b) = key b ++ key a := by simp [key]
theorem map_low : ∀ {a b : List UInt8}, NameBytes a → NameBytes b → ((a.map fun c => tabF c.toNat) = (b.map fun c => tabF c.toNat) ↔ lowL a = lowL b)
  | [], [], _, _ => by simp [lowL]
  | [], _ :: _, _, _ => by simp [lowL]
  | _ :: _, [], _, _ => by simp [lowL]
  | c :: a, d :: b, ha, hb => by
    have ih := map_low (a := a) (b := b) (fun x hx => ha x (by simp [hx])) (fun x hx => hb x (by simp [hx]))
    have e := tabF_low (ha c (by simp)) (hb d (by simp))
    unfold lowL at ih ⊢
    rw [List.map_cons, List.map_cons, List.map_cons, List.map_cons, List.cons.injEq, List.cons.injEq, ih, e]
theorem key_same {a b : List UInt8} (ha : NameBytes a) (hb : NameBytes b) : key a = key b ↔ sameL a b = true := by
  unfold key sameL
  rw [List.reverse_inj, map_low ha hb, decide_eq_true_eq]
/-- One name under another one, by their keys. -/
theorem suf_key {a b : List UInt8} (ha : NameBytes a) (hb : NameBytes b) (h0 : a ≠ []) : hasSufL a b = true ↔ KSub (key a) (key b) := by
  have hd : NameBytes (b.drop (b.length - a.length)) := fun c hc => hb c (List.mem_of_mem_drop hc)
  unfold hasSufL KSub
  rw [Bool.and_eq_true, Bool.and_eq_true, decide_eq_true_eq, Bool.or_eq_true, Bool.or_eq_true, decide_eq_true_eq, key_length, key_length]
  have hpre : (a.length ≤ b.length ∧ sameL a (b.drop (b.length - a.length)) = true) ↔ key a <+: key b := by
    constructor
    · rintro ⟨hl, hs⟩
      have e : b = b.take (b.length - a.length) ++ b.drop (b.length - a.length) := (List.take_append_drop _ _).symm
      rw [e, key_append, (key_same ha hd).2 hs]
      exact List.prefix_append _ _
    · intro hp
      have hl : a.length ≤ b.length := by have := hp.length_le; rwa [key_length, key_length] at this
      refine ⟨hl, (key_same ha hd).1 ?_⟩
      have e : b = b.take (b.length - a.length) ++ b.drop (b.length - a.length) := (List.take_append_drop _ _).symm
      have e2 : key b = key (b.drop (b.length - a.length)) ++ key (b.take (b.length - a.length)) := by conv => lhs; rw [e]; rw [key_append]
      have hp2 : key (b.drop (b.length - a.length)) <+: key b := by rw [e2]; exact List.prefix_append _ _
      exact List.IsPrefix.eq_of_length (List.prefix_of_prefix_length_le hp hp2 (by rw [key_length, key_length, List.length_drop]; omega)) (by rw [key_length, key_length, List.length_drop]; omega)
  have h1 : (a.head? == some 46) = true ↔ (key a).getLast? = some 0 := by
    unfold key
    rw [List.getLast?_reverse, List.head?_map, beq_iff_eq]
    cases a with
    | nil => exact absurd rfl h0
    | cons c r =>
      simp only [List.head?_cons, Option.map_some, Option.some.injEq]
      exact (tabF_zero (ha c (by simp))).symm
  constructor
  · rintro ⟨hs, ho⟩
    refine ⟨hpre.1 hs, ?_⟩
    rcases ho with (ho | ho) | ho
    · exact .inl (h1.1 ho)
    · exact .inr (.inl ho)
    · by_cases hl : a.length = b.length
      · exact .inr (.inl hl)
      · right; right
        have hlt : a.length < b.length := by have := hs.1; omega
        rw [beq_iff_eq] at ho
        unfold key
        rw [List.getElem?_reverse (by simpa using hlt), List.length_map, List.getElem?_map, show b.length - 1 - a.length = b.length - a.length - 1 by omega, ho]
        rfl
  · rintro ⟨hp, ho⟩
    have hs := hpre.2 hp
    refine ⟨hs, ?_⟩
    rcases ho with ho | ho | ho
    · exact .inl (.inl (h1.2 ho))
    · exact .inl (.inr ho)
    · right
      have hlt : a.length < b.length := by have := (List.getElem?_eq_some_iff.1 ho).1; rwa [key_length] at this
      unfold key at ho
      rw [List.getElem?_reverse (by simpa using hlt), List.length_map, List.getElem?_map, show b.length - 1 - a.length = b.length - a.length - 1 by omega] at ho
      have hlt2 : b.length - a.length - 1 < b.length := by omega
      rw [List.getElem?_eq_getElem hlt2] at ho ⊢
      simp only [Option.map_some, Option.some.injEq] at ho
      rw [(tabF_zero (hb _ (List.getElem_mem hlt2))).1 ho, beq_self_eq_true]
theorem nameOk_bytes {l : List UInt8} (h : nameOk l = true) : NameBytes l := nameOk_byte h
/-- A name under another one, or that itself, whatever the case. -/
theorem hasSuf_names {a b : List UInt8} (ha : nameOk a = true) (hb : nameOk b = true) : hasSufL a b = (sameL b a || underL b a) := by
  obtain ⟨c, r, ea, hc⟩ := nameOk_head ha
  obtain ⟨d, r', eb, hd⟩ := nameOk_head hb
  have hh : (a.head? == some 46) = false := by rw [ea]; simp [hc]
  have hsym : ∀ x y : List UInt8, sameL x y = sameL y x := fun x y => by unfold sameL; rw [decide_eq_decide]; exact eq_comm
  unfold hasSufL underL
  rw [hh, Bool.false_or]
  rcases Nat.lt_trichotomy a.length b.length with h | h | h
  · have h1 : decide (a.length ≤ b.length) = true := by simp; omega
    have h2 : decide (a.length = b.length) = false := by simp; omega
    have h3 : sameL b a = false := by
      unfold sameL
      rw [decide_eq_false_iff_not]
      intro e
      have := congrArg List.length e
      rw [lowL_length, lowL_length] at this
      omega
    rw [h1, h2, h3, Bool.true_and, Bool.false_or, Bool.false_or]
    by_cases h4 : a.length + 1 < b.length
    · rw [decide_eq_true h4, Bool.true_and, Bool.and_comm, hsym]
    · have e1 : b.length - a.length - 1 = 0 := by omega
      rw [decide_eq_false h4, e1, eb]
      simp [hd]
  · have h1 : decide (a.length ≤ b.length) = true := by simp; omega
    have h4 : decide (a.length + 1 < b.length) = false := by simp; omega
    have e0 : b.length - a.length = 0 := by omega
    rw [h1, h4, e0, hsym]
    simp [h]
  · have h1 : decide (a.length ≤ b.length) = false := by simp; omega
    have h3 : sameL b a = false := by
      unfold sameL
      rw [decide_eq_false_iff_not]
      intro e
      have := congrArg List.length e
      rw [lowL_length, lowL_length] at this
      omega
    have h4 : decide (a.length + 1 < b.length) = false := by simp; omega
    rw [h1, h3, h4]
    simp
/-- What a constraint of names says of a name. -/
def dnsV (c n : List UInt8) : Int := if c = [] then 1 else if nameOk c = false then 2 else if (sameL n c || underL n c) = true then 1 else 0
theorem dnsV_ok {c n : List UInt8} (hc : nameOk c = true) (hn : nameOk n = true) : dnsV c n = if hasSufL c n = true then 1 else 0 := by
  have h0 : c ≠ [] := fun e => by have := nameOk_pos hc; rw [e] at this; cases this
  unfold dnsV
  rw [if_neg h0, if_neg (by rw [hc]; simp), hasSuf_names hc hn]
end Go.Proofs.YtdinnpjplgkffaaGreatDoor
