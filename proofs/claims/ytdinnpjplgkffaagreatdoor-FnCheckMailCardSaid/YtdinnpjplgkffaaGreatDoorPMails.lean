/-
  The plain law of mailboxes, hosts and domains as constraints of mail addresses. No condition.
-/
import Derived.Test.YtdinnpjplgkffaaGreatDoorPDns
import Derived.Test.YtdinnpjplgkffaaGreatDoorPMail2
namespace Go.Proofs.YtdinnpjplgkffaaGreatDoor

/-! ### LOWER CASE -/
theorem low_low (n : Nat) : low (low n) = low n := by
  unfold low
  by_cases h : 65 ≤ n ∧ n ≤ 90
  · rw [if_pos h, if_neg (by omega)]
  · rw [if_neg h, if_neg h]
theorem lowB_lowB (c : UInt8) : lowB (lowB c) = lowB c := by
  refine UInt8.toNat_inj.1 ?_
  rw [lowB_toNat, lowB_toNat, low_low]
theorem lowLL (l : List UInt8) : lowL (lowL l) = lowL l := by
  unfold lowL
  rw [List.map_map]
  congr 1
  funext c
  exact lowB_lowB c
theorem lowB_small {c d : UInt8} (h : d.toNat < 65) : lowB c = d ↔ c = d := by
  rw [← UInt8.toNat_inj, ← UInt8.toNat_inj, lowB_toNat]
  unfold low
  split <;> omega
theorem splitDot_low : ∀ l : List UInt8, splitDot (lowL l) = (splitDot l).map lowL
  | [] => rfl
  | c :: r => by
    have ih := splitDot_low r
    show splitDot (lowB c :: lowL r) = _
    by_cases h : c = 46
    · subst h
      rw [show lowB 46 = 46 from (lowB_small (by decide)).2 rfl]
      unfold splitDot
      rw [if_pos rfl, if_pos rfl, ih]
      rfl
    · have h2 : ¬ lowB c = 46 := fun e => h ((lowB_small (by decide)).1 e)
      unfold splitDot
      rw [if_neg h, if_neg h2, ih]
      cases splitDot r with
      | nil => rfl
      | cons a t => rfl
theorem opt_low (o : Option UInt8) {d : UInt8} (h : d.toNat < 65) : (o.map lowB != some d) = (o != some d) := by
  cases o with
  | none => rfl
  | some c =>
    rw [Option.map_some, Bool.eq_iff_iff]
    simp only [bne_iff_ne, ne_eq, Option.some.injEq]
    rw [lowB_small h]
theorem labelOk_low (l : List UInt8) : labelOk (lowL l) = labelOk l := by
  have h1 : ((lowL l).head? != some 45) = (l.head? != some 45) := by
    unfold lowL
    rw [List.head?_map]
    exact opt_low _ (by decide)
  have h2 : ((lowL l).getLast? != some 45) = (l.getLast? != some 45) := by
    unfold lowL
    rw [List.getLast?_map]
    exact opt_low _ (by decide)
  have h3 : ((lowL l).all fun c => okByte c.toNat) = l.all fun c => okByte c.toNat := by
    unfold lowL
    rw [List.all_map]
    congr 1
    funext c
    show okByte (lowB c).toNat = okByte c.toNat
    unfold okByte
    rw [lowB_toNat, low_low]
  unfold labelOk
  rw [h1, h2, h3, lowL_length]
theorem nameOk_low (l : List UInt8) : nameOk (lowL l) = nameOk l := by
  unfold nameOk
  rw [splitDot_low, List.all_map, lowL_length, List.getLast?_map]
  have h1 : (splitDot l).all (labelOk ∘ lowL) = (splitDot l).all labelOk := by
    congr 1
    funext x
    exact labelOk_low x
  rw [h1]
  congr 1
  cases (splitDot l).getLast? with
  | none => rfl
  | some x =>
    cases x with
    | nil => rfl
    | cons c r =>
      show alpha (lowB c).toNat = alpha c.toNat
      unfold alpha
      rw [lowB_toNat, low_low]
theorem sameL_low (a b : List UInt8) : sameL (lowL a) b = sameL a b := by
  unfold sameL
  rw [lowLL]
theorem underL_low (n d : List UInt8) : underL (lowL n) d = underL n d := by
  have h : ((lowL n)[n.length - d.length - 1]? == some 46) = (n[n.length - d.length - 1]? == some 46) := by
    unfold lowL
    rw [List.getElem?_map]
    have := opt_low n[n.length - d.length - 1]? (d := 46) (by decide)
    simp only [bne] at this
    exact Bool.not_inj this
  unfold underL
  rw [lowL_length, h, ← lowL_drop, sameL_low]

/-! ### A TEXT AT ITS ONLY @ -/
def cutL : List UInt8 → Option (List UInt8 × List UInt8)
  | [] => none
  | c :: r => if c = 64 then (if r.any (· == 64) = true then none else some ([], r)) else (cutL r).map fun p => (c :: p.1, p.2)
theorem any64 {l : List UInt8} : l.any (· == 64) = true ↔ (64 : UInt8) ∈ l := by
  rw [List.any_eq_true]
  constructor
  · rintro ⟨x, hx, e⟩
    rw [beq_iff_eq] at e
    rw [← e]; exact hx
  · intro h
    exact ⟨64, h, by rfl⟩
theorem cutL_some : ∀ {l a d : List UInt8}, cutL l = some (a, d) ↔ l = a ++ 64 :: d ∧ (64 : UInt8) ∉ a ∧ (64 : UInt8) ∉ d
  | [], a, d => by simp [cutL]
  | c :: r, a, d => by
    unfold cutL
    by_cases hc : c = 64
    · subst hc
      rw [if_pos rfl]
      by_cases ha : r.any (· == 64) = true
      · rw [if_pos ha]
        refine ⟨fun e => (by cases e), fun ⟨e, h1, h2⟩ => ?_⟩
        cases a with
        | nil =>
          rw [List.nil_append, List.cons.injEq] at e
          rw [e.2] at ha
          exact absurd (any64.1 ha) h2
        | cons x t =>
          rw [List.cons_append, List.cons.injEq] at e
          exact absurd (by rw [e.1]; simp) h1
      · rw [if_neg ha]
        constructor
        · intro e
          injection e with e
          injection e with e1 e2
          subst e1 e2
          exact ⟨rfl, by simp, fun h => ha (any64.2 h)⟩
        · rintro ⟨e, h1, h2⟩
          cases a with
          | nil =>
            rw [List.nil_append, List.cons.injEq] at e
            rw [e.2]
          | cons x t =>
            rw [List.cons_append, List.cons.injEq] at e
            exact absurd (by rw [e.1]; simp) h1
    · rw [if_neg hc]
      constructor
      · intro e
        obtain ⟨p, hp, e2⟩ := Option.map_eq_some_iff.1 e
        injection e2 with e3 e4
        subst e3 e4
        obtain ⟨h0, h1, h2⟩ := cutL_some.1 hp
        refine ⟨by rw [h0]; rfl, fun h => ?_, h2⟩
        rcases List.mem_cons.1 h with h | h
        · exact hc h.symm
        · exact h1 h
      · rintro ⟨e, h1, h2⟩
        cases a with
        | nil =>
          rw [List.nil_append, List.cons.injEq] at e
          exact absurd e.1 hc
        | cons x t =>
          rw [List.cons_append, List.cons.injEq] at e
          obtain ⟨rfl, e⟩ := e
          have := (cutL_some (l := r) (a := t) (d := d)).2 ⟨e, fun h => h1 (List.mem_cons_of_mem _ h), h2⟩
          rw [this]; rfl
theorem cutL_mem {l a d : List UInt8} (h : cutL l = some (a, d)) : (64 : UInt8) ∈ l := by
  rw [(cutL_some.1 h).1]; simp

/-! ### CONSTRAINTS -/
theorem atomC_ascii {c : UInt8} (h : atomC c = true) : c.toNat < 128 := by
  unfold atomC low at h
  simp only [Bool.or_eq_true, Bool.and_eq_true, decide_eq_true_eq, atomS, List.contains_eq_mem, List.mem_cons, List.not_mem_nil, or_false, ← UInt8.toNat_inj, UInt8.toNat_ofNat] at h
  split at h <;> omega
theorem locL_ascii {l : List UInt8} (h : locL l) : ∀ c ∈ l, c.toNat < 128 := fun c hc => by
  rcases mem_splitDot l c hc with rfl | ⟨x, hx, hcx⟩
  · decide
  · exact atomC_ascii ((h x hx).2 c hcx)
theorem nameB_ascii {l : List UInt8} (h : NameBytes l) : ∀ c ∈ l, c.toNat < 128 ∧ c ≠ 64 := fun c hc => by
  rcases h c hc with rfl | e
  · decide
  · unfold okByte low at e
    simp only [Bool.or_eq_true, Bool.and_eq_true, decide_eq_true_eq, beq_iff_eq] at e
    have h1 : c.toNat < 128 ∧ c.toNat ≠ 64 := by split at e <;> omega
    exact ⟨h1.1, fun e2 => h1.2 (by rw [e2]; rfl)⟩
def mboxOk (c : List UInt8) : Prop := ∃ p q, cutL c = some (p, q) ∧ localOk p ∧ nameOk q = true
/-- A dot and the name of a host. -/
def subOkB (c : List UInt8) : Bool := c.head? == some 46 && nameOk c.tail
/-- What a constraint of hosts says of a host. -/
def uriS (c h : List UInt8) : Int := if subOkB c = true then (if underL h c.tail = true then 1 else 0) else if nameOk c = false then 2 else if underL h c = true then 2 else if sameL h c = true then 1 else 0
open Classical in
/-- What a constraint of mail addresses says of one. -/
noncomputable def mailS (c a d : List UInt8) : Int := if mboxOk c then (if ∃ q, cutL c = some (a, q) ∧ sameL q d = true then 1 else 0) else uriS c d
/-- A constraint that is spoken of: a mailbox, or dots, letters, digits and hyphens. -/
def MailE (y : ByteArray) : Prop := (∃ p q, cutL (bytes y) = some (p, q) ∧ locL p ∧ nameOk q = true ∧ y.size ≤ 400) ∨ ((64 : UInt8) ∉ bytes y ∧ NameBytes (bytes y) ∧ 0 < y.size ∧ y.size ≤ 400)
/-- Whether an address meets one of some constraints, its host in lower case. -/
def MetM (L : List ByteArray) (a n : List UInt8) : Prop := ∃ y ∈ L, (∃ q, cutL (bytes y) = some (a, q) ∧ lowL q = n) ∨ ((64 : UInt8) ∉ bytes y ∧ hasSufL (bytes y) n = true)
theorem subOkB_some {c : List UInt8} (h : subOkB c = true) : ∃ r, c = 46 :: r ∧ nameOk r = true := by
  unfold subOkB at h
  rw [Bool.and_eq_true, beq_iff_eq] at h
  cases c with
  | nil => simp at h
  | cons x r =>
    simp at h
    exact ⟨r, by rw [h.1], h.2⟩
theorem no64 {l : List UInt8} (h : NameBytes l) : (64 : UInt8) ∉ l := fun e => (nameB_ascii h _ e).2 rfl
theorem dotName {r : List UInt8} (h : nameOk r = true) : NameBytes (46 :: r) := fun c hc => by
  rcases List.mem_cons.1 hc with rfl | hc
  · exact .inl rfl
  · exact nameOk_bytes h c hc
theorem mailE_mbox {y : ByteArray} (h : mboxOk (bytes y)) : MailE y := by
  obtain ⟨p, q, h1, h2, h3⟩ := h
  refine .inl ⟨p, q, h1, (localOk_locL h2).1, h3, ?_⟩
  have e := (cutL_some.1 h1).1
  have a1 := (localOk_locL h2).2
  have a2 := nameOk_size h3
  rw [← bytes_length, e, List.length_append, List.length_cons]
  omega
theorem mailE_of {y : ByteArray} {a d : List UInt8} (h : mailS (bytes y) a d ≠ 2) : MailE y := by
  unfold mailS at h
  by_cases hm : mboxOk (bytes y)
  · exact mailE_mbox hm
  · rw [if_neg hm] at h
    unfold uriS at h
    by_cases hs : subOkB (bytes y) = true
    · obtain ⟨r, e, hr⟩ := subOkB_some hs
      have hb : NameBytes (bytes y) := by rw [e]; exact dotName hr
      have h2 := nameOk_size hr
      refine .inr ⟨no64 hb, hb, ?_, ?_⟩
      · rw [← bytes_length, e]; simp
      · rw [← bytes_length, e, List.length_cons]; omega
    · rw [if_neg hs] at h
      cases hn : nameOk (bytes y)
      · rw [hn, if_pos rfl] at h
        exact absurd rfl h
      · have hb := nameOk_bytes hn
        have h2 := nameOk_size hn
        have h3 := nameOk_pos hn
        rw [bytes_length] at h2 h3
        exact .inr ⟨no64 hb, hb, h3, by omega⟩
/-- A domain with a dot ahead: labels more ahead of it. -/
theorem hasSuf_dot {r n : List UInt8} (hn : nameOk n = true) : hasSufL (46 :: r) n = underL n r := by
  obtain ⟨d, t, en, hd⟩ := nameOk_head hn
  rw [Bool.eq_iff_iff]
  unfold hasSufL underL
  simp only [List.head?_cons, beq_self_eq_true, Bool.true_or, Bool.and_true, List.length_cons, Bool.and_eq_true, decide_eq_true_eq, beq_iff_eq]
  constructor
  · rintro ⟨h1, h2⟩
    have hk : n.length - r.length - 1 < n.length := by omega
    have e1 : n.drop (n.length - (r.length + 1)) = n[n.length - r.length - 1] :: n.drop (n.length - r.length) := by
      rw [show n.length - (r.length + 1) = n.length - r.length - 1 by omega, List.drop_eq_getElem_cons hk, show n.length - r.length - 1 + 1 = n.length - r.length by omega]
    rw [e1] at h2
    unfold sameL at h2
    rw [decide_eq_true_eq] at h2
    have h3 : lowB 46 = lowB n[n.length - r.length - 1] ∧ lowL r = lowL (n.drop (n.length - r.length)) := by
      unfold lowL at h2
      rw [List.map_cons, List.map_cons, List.cons.injEq] at h2
      exact h2
    have h4 : n[n.length - r.length - 1] = 46 := (lowB_small (by decide)).1 (h3.1.symm.trans ((lowB_small (by decide)).2 rfl))
    refine ⟨⟨?_, ?_⟩, ?_⟩
    · rcases Nat.lt_or_ge (r.length + 1) n.length with h | h
      · exact h
      · exfalso
        have h5 : n[n.length - r.length - 1]? = some 46 := by rw [List.getElem?_eq_getElem hk, h4]
        rw [show n.length - r.length - 1 = 0 by omega, en] at h5
        simp at h5
        exact hd h5
    · rw [List.getElem?_eq_getElem hk, h4]
    · unfold sameL
      rw [decide_eq_true_eq]
      exact h3.2.symm
  · rintro ⟨⟨h1, h2⟩, h3⟩
    have hk : n.length - r.length - 1 < n.length := by omega
    rw [List.getElem?_eq_getElem hk, Option.some.injEq] at h2
    refine ⟨by omega, ?_⟩
    have e1 : n.drop (n.length - (r.length + 1)) = n[n.length - r.length - 1] :: n.drop (n.length - r.length) := by
      rw [show n.length - (r.length + 1) = n.length - r.length - 1 by omega, List.drop_eq_getElem_cons hk, show n.length - r.length - 1 + 1 = n.length - r.length by omega]
    rw [e1, h2]
    unfold sameL at h3 ⊢
    rw [decide_eq_true_eq] at h3 ⊢
    unfold lowL at h3 ⊢
    rw [List.map_cons, List.map_cons, h3]
theorem sameL_comm (a b : List UInt8) : sameL a b = sameL b a := by
  unfold sameL
  rw [decide_eq_decide]
  exact eq_comm
theorem mailS_one {y : ByteArray} {a d : List UInt8} (hd : nameOk d = true) (h : mailS (bytes y) a d ≠ 2) :
    mailS (bytes y) a d = 1 ↔ ((∃ q, cutL (bytes y) = some (a, q) ∧ lowL q = lowL d) ∨ ((64 : UInt8) ∉ bytes y ∧ hasSufL (bytes y) (lowL d) = true)) := by
  have hn : nameOk (lowL d) = true := by rw [nameOk_low]; exact hd
  unfold mailS at h ⊢
  by_cases hm : mboxOk (bytes y)
  · rw [if_pos hm]
    obtain ⟨p, q, h1, -, -⟩ := hm
    have h64 := cutL_mem h1
    have e : (∃ q, cutL (bytes y) = some (a, q) ∧ sameL q d = true) ↔ ((∃ q, cutL (bytes y) = some (a, q) ∧ lowL q = lowL d) ∨ ((64 : UInt8) ∉ bytes y ∧ hasSufL (bytes y) (lowL d) = true)) := by
      constructor
      · rintro ⟨q, e1, e2⟩
        unfold sameL at e2
        exact .inl ⟨q, e1, by simpa using e2⟩
      · rintro (⟨q, e1, e2⟩ | ⟨e1, -⟩)
        · exact ⟨q, e1, by unfold sameL; simpa using e2⟩
        · exact absurd h64 e1
    rw [← e]
    split <;> simp_all
  · rw [if_neg hm] at h ⊢
    have hcut : (64 : UInt8) ∉ bytes y → ((∃ q, cutL (bytes y) = some (a, q) ∧ lowL q = lowL d) ∨ ((64 : UInt8) ∉ bytes y ∧ hasSufL (bytes y) (lowL d) = true) ↔ hasSufL (bytes y) (lowL d) = true) := fun h64 => by
      constructor
      · rintro (⟨q, e1, -⟩ | ⟨-, e2⟩)
        · exact absurd (cutL_mem e1) h64
        · exact e2
      · intro e; exact .inr ⟨h64, e⟩
    unfold uriS at h ⊢
    by_cases hs : subOkB (bytes y) = true
    · obtain ⟨r, e, hr⟩ := subOkB_some hs
      rw [if_pos hs]
      have h64 : (64 : UInt8) ∉ bytes y := by rw [e]; exact no64 (dotName hr)
      rw [hcut h64, e, hasSuf_dot hn, underL_low]
      show (if underL d r = true then (1 : Int) else 0) = 1 ↔ _
      cases underL d r <;> simp
    · rw [if_neg hs] at h ⊢
      cases hk : nameOk (bytes y)
      · rw [hk, if_pos rfl] at h
        exact absurd rfl h
      · rw [hk, if_neg (by simp)] at h
        rw [if_neg (by simp)]
        by_cases hu : underL d (bytes y) = true
        · rw [if_pos hu] at h
          exact absurd rfl h
        · rw [if_neg hu, hcut (no64 (nameOk_bytes hk)), hasSuf_names hk hn, underL_low, sameL_low]
          have hu2 : underL d (bytes y) = false := by simpa using hu
          rw [hu2, Bool.or_false]
          cases sameL d (bytes y) <;> simp
/-! ### WHAT THE CODE MAKES OF THEM -/
/-- Those without an @. -/
def domsL (L : List ByteArray) : List ByteArray := L.filter fun y => !((bytes y).any (· == 64))
/-- Mailboxes, their hosts in lower case. -/
def mboxL (L : List ByteArray) : List (ByteArray × ByteArray) := L.filterMap fun y => (cutL (bytes y)).map fun p => (ofBytes p.1, ofBytes (lowL p.2))
theorem mem_domsL {L : List ByteArray} {y : ByteArray} : y ∈ domsL L ↔ y ∈ L ∧ (64 : UInt8) ∉ bytes y := by
  unfold domsL
  rw [List.mem_filter]
  have : (!((bytes y).any (· == 64))) = true ↔ (64 : UInt8) ∉ bytes y := by rw [Bool.not_eq_true', ← Bool.not_eq_true, any64]
  rw [this]
theorem domsL_snoc (L : List ByteArray) (y : ByteArray) : domsL (L ++ [y]) = if (64 : UInt8) ∈ bytes y then domsL L else domsL L ++ [y] := by
  unfold domsL
  rw [List.filter_append]
  by_cases h : (64 : UInt8) ∈ bytes y
  · rw [if_pos h]
    simp [any64.2 h]
  · rw [if_neg h]
    have : (bytes y).any (· == 64) = false := by
      cases e : (bytes y).any (· == 64)
      · rfl
      · exact absurd (any64.1 e) h
    simp [this]
theorem mboxL_snoc (L : List ByteArray) {y : ByteArray} : mboxL (L ++ [y]) = mboxL L ++ ((cutL (bytes y)).map fun p => (ofBytes p.1, ofBytes (lowL p.2))).toList := by
  unfold mboxL
  rw [List.filterMap_append]
  cases h : (cutL (bytes y)).map fun p => (ofBytes p.1, ofBytes (lowL p.2)) <;> simp [h]
theorem cutL_none {y : ByteArray} (h : (64 : UInt8) ∉ bytes y) : cutL (bytes y) = none := by
  cases e : cutL (bytes y) with
  | none => rfl
  | some p => exact absurd (cutL_mem (l := bytes y) (a := p.1) (d := p.2) e) h
theorem metM_iff {L : List ByteArray} {a n : ByteArray} : MetM L (bytes a) (bytes n) ↔ (a, n) ∈ mboxL L ∨ ∃ y ∈ domsL L, hasSufL (bytes y) (bytes n) = true := by
  unfold MetM mboxL
  simp only [List.mem_filterMap, Option.map_eq_some_iff, Prod.mk.injEq]
  constructor
  · rintro ⟨y, hy, h | ⟨h1, h2⟩⟩
    · obtain ⟨q, e1, e2⟩ := h
      exact .inl ⟨y, hy, (bytes a, q), e1, ofBytes_bytes a, by rw [e2]; exact ofBytes_bytes n⟩
    · exact .inr ⟨y, mem_domsL.2 ⟨hy, h1⟩, h2⟩
  · rintro (⟨y, hy, ⟨p, q⟩, e1, e2, e3⟩ | ⟨y, hy, h⟩)
    · refine ⟨y, hy, .inl ⟨q, ?_, ?_⟩⟩
      · rw [← e2, bytes_ofBytes]; exact e1
      · rw [← e3, bytes_ofBytes]
    · exact ⟨y, (mem_domsL.1 hy).1, .inr ⟨(mem_domsL.1 hy).2, h⟩⟩
end Go.Proofs.YtdinnpjplgkffaaGreatDoor
