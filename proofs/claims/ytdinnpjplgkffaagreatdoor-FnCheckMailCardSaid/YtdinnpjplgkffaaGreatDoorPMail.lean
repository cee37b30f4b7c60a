/-
  The mailbox's plain parser: a local part between quotes, a local part without, and what must stand behind. No condition.
-/
import Derived.Test.YtdinnpjplgkffaaGreatDoorPValid
namespace Go.Proofs.YtdinnpjplgkffaaGreatDoor

/-- What may stand behind a backslash between quotes. -/
def qpairB (c : UInt8) : Bool := c == 11 || c == 12 || (decide (1 ≤ c.toNat) && decide (c.toNat ≤ 9)) || (decide (14 ≤ c.toNat) && decide (c.toNat ≤ 127))
/-- What may stand between quotes by itself. -/
def qtextB (c : UInt8) : Bool := c == 11 || c == 12 || c == 32 || c == 33 || c == 127 || (decide (1 ≤ c.toNat) && decide (c.toNat ≤ 8)) || (decide (14 ≤ c.toNat) && decide (c.toNat ≤ 31)) || (decide (35 ≤ c.toNat) && decide (c.toNat ≤ 91)) || (decide (93 ≤ c.toNat) && decide (c.toNat ≤ 126))
/-- What may stand in a local part without quotes, dots too. -/
def unqB (c : UInt8) : Bool := (decide (48 ≤ c.toNat) && decide (c.toNat ≤ 57)) || (decide (97 ≤ c.toNat) && decide (c.toNat ≤ 122)) || (decide (65 ≤ c.toNat) && decide (c.toNat ≤ 90)) ||
  c == 33 || c == 35 || c == 36 || c == 37 || c == 38 || c == 39 || c == 42 || c == 43 || c == 45 || c == 47 || c == 61 || c == 63 || c == 94 || c == 95 || c == 96 || c == 123 || c == 124 || c == 125 || c == 126 || c == 46

def parseQ : List UInt8 → List UInt8 → Option (List UInt8 × List UInt8)
  | [], _ => none
  | c :: r, acc => if c = 34 then some (acc, r) else if c = 92 then (match r with | [] => none | d :: r2 => if qpairB d = true then parseQ r2 (acc ++ [d]) else none) else if qtextB c = true then parseQ r (acc ++ [c]) else none
def parseA : List UInt8 → List UInt8 → Option (List UInt8 × List UInt8)
  | [], acc => some (acc, [])
  | c :: r, acc => if c = 92 then (match r with | [] => none | d :: r2 => parseA r2 (acc ++ [d])) else if unqB c = true then parseA r (acc ++ [c]) else some (acc, c :: r)
/-- Two dots side by side. -/
def twoL : List UInt8 → Bool
  | [] => false
  | c :: r => (c == 46 && r.head? == some 46) || twoL r
/-- What stands behind the local part: an @ and a domain without one. -/
def finishM (p : List UInt8 × List UInt8) : Option (List UInt8 × List UInt8) := match p.2 with
  | [] => none
  | c :: d => if c = 64 then if validL d false = true then if d.any (· == 64) = true then none else some (p.1, d) else none else none
/-- A local part without quotes must have something, no dot at an end, no two side by side. -/
def dotsM (a : List UInt8) : Bool := !a.isEmpty && a.head? != some 46 && a.getLast? != some 46 && !twoL a
def restM (p : List UInt8 × List UInt8) : Option (List UInt8 × List UInt8) := if dotsM p.1 = true then finishM p else none
def parseM (l : List UInt8) : Option (List UInt8 × List UInt8) := match l with
  | [] => none
  | c :: r => if c = 34 then (parseQ r []).bind finishM else (parseA (c :: r) []).bind restM

theorem parseQ_nil (acc : List UInt8) : parseQ [] acc = none := by unfold parseQ; rfl
theorem parseQ_quote (r acc : List UInt8) : parseQ (34 :: r) acc = some (acc, r) := by unfold parseQ; rw [if_pos rfl]
theorem parseQ_esc0 (acc : List UInt8) : parseQ [92] acc = none := by unfold parseQ; rw [if_neg (by decide), if_pos rfl]
theorem parseQ_esc {d : UInt8} (r acc : List UInt8) (h : qpairB d = true) : parseQ (92 :: d :: r) acc = parseQ r (acc ++ [d]) := by
  rw [parseQ.eq_def]; simp only [if_neg (show ¬ (92 : UInt8) = 34 by decide), if_true, if_pos h]
theorem parseQ_esc_no {d : UInt8} (r acc : List UInt8) (h : qpairB d = false) : parseQ (92 :: d :: r) acc = none := by
  rw [parseQ.eq_def]; simp [h]
theorem parseQ_text {c : UInt8} (r acc : List UInt8) (h1 : c ≠ 34) (h2 : c ≠ 92) (h : qtextB c = true) : parseQ (c :: r) acc = parseQ r (acc ++ [c]) := by
  rw [parseQ.eq_def]; simp only [if_neg h1, if_neg h2, if_pos h]
theorem parseQ_no {c : UInt8} (r acc : List UInt8) (h1 : c ≠ 34) (h2 : c ≠ 92) (h : qtextB c = false) : parseQ (c :: r) acc = none := by
  rw [parseQ.eq_def]; simp [h1, h2, h]
theorem parseA_nil (acc : List UInt8) : parseA [] acc = some (acc, []) := by unfold parseA; rfl
theorem parseA_esc0 (acc : List UInt8) : parseA [92] acc = none := by unfold parseA; rw [if_pos rfl]
theorem parseA_esc (d : UInt8) (r acc : List UInt8) : parseA (92 :: d :: r) acc = parseA r (acc ++ [d]) := by
  rw [parseA.eq_def]; simp only [if_true]
theorem parseA_text {c : UInt8} (r acc : List UInt8) (h2 : c ≠ 92) (h : unqB c = true) : parseA (c :: r) acc = parseA r (acc ++ [c]) := by
  rw [parseA.eq_def]; simp only [if_neg h2, if_pos h]
theorem parseA_stop {c : UInt8} (r acc : List UInt8) (h2 : c ≠ 92) (h : unqB c = false) : parseA (c :: r) acc = some (acc, c :: r) := by
  rw [parseA.eq_def]; simp [h2, h]

/-! ### TWO DOTS -/
theorem twoL_get : ∀ l : List UInt8, twoL l = true ↔ ∃ j, ∃ h : j + 1 < l.length, l[j]'(by omega) = 46 ∧ l[j + 1]'h = 46
  | [] => by simp [twoL]
  | c :: r => by
    have ih := twoL_get r
    unfold twoL
    rw [Bool.or_eq_true, ih]
    constructor
    · rintro (h | ⟨j, hj, h1, h2⟩)
      · rw [Bool.and_eq_true, beq_iff_eq, beq_iff_eq] at h
        obtain ⟨h1, h2⟩ := h
        cases r with
        | nil => simp at h2
        | cons d t => exact ⟨0, by simp, h1, by simpa using h2⟩
      · exact ⟨j + 1, by simp; omega, h1, h2⟩
    · rintro ⟨j, hj, h1, h2⟩
      cases j with
      | zero =>
        left
        cases r with
        | nil => simp at hj
        | cons d t =>
          simp at h1 h2
          simp [h1, h2]
      | succ j => exact .inr ⟨j, by simpa using hj, h1, h2⟩
theorem twoL_split : ∀ l : List UInt8, twoL l = true → ∃ a b, l = a ++ 46 :: 46 :: b
  | [], h => by simp [twoL] at h
  | c :: r, h => by
    unfold twoL at h
    rw [Bool.or_eq_true] at h
    rcases h with h | h
    · rw [Bool.and_eq_true, beq_iff_eq, beq_iff_eq] at h
      obtain ⟨rfl, h2⟩ := h
      cases r with
      | nil => simp at h2
      | cons d t => simp at h2; subst h2; exact ⟨[], t, rfl⟩
    · obtain ⟨a, b, e⟩ := twoL_split r h
      exact ⟨c :: a, b, by rw [e]; rfl⟩
theorem twoL_of : ∀ a b : List UInt8, twoL (a ++ 46 :: 46 :: b) = true
  | [], b => by simp [twoL]
  | c :: r, b => by
    show twoL (c :: (r ++ 46 :: 46 :: b)) = true
    unfold twoL
    rw [twoL_of r b, Bool.or_true]
end Go.Proofs.YtdinnpjplgkffaaGreatDoor
