/-
  Plain laws on names of hosts: what a name begins with, what 'ends by whole labels' is for names in lower case. No condition.
-/
import Derived.Test.YtdinnpjplgkffaaGreatDoorW7
namespace Go.Proofs.YtdinnpjplgkffaaGreatDoor

theorem labelOk_head {l : List UInt8} (h : labelOk l = true) : ∃ c r, l = c :: r ∧ okByte c.toNat = true := by
  cases l with
  | nil => simp [labelOk] at h
  | cons c r =>
    refine ⟨c, r, rfl, ?_⟩
    unfold labelOk at h
    simp at h
    exact h.2.1
theorem okByte_dot : okByte 46 = false := by decide
theorem nameOk_labels {l : List UInt8} (h : nameOk l = true) : ∀ x ∈ splitDot l, labelOk x = true := by
  unfold nameOk at h
  simp only [Bool.and_eq_true, List.all_eq_true] at h
  exact h.1.1
theorem nameOk_size {l : List UInt8} (h : nameOk l = true) : l.length ≤ 200 := by
  unfold nameOk at h
  simp only [Bool.and_eq_true, decide_eq_true_eq] at h
  exact h.1.2
theorem nameOk_head {l : List UInt8} (h : nameOk l = true) : ∃ c r, l = c :: r ∧ c ≠ 46 := by
  have hl := nameOk_labels h
  cases l with
  | nil => exact absurd (hl [] (by simp [splitDot])) (by decide)
  | cons c r =>
    refine ⟨c, r, rfl, fun hc => ?_⟩
    subst hc
    exact absurd (hl [] (by simp [splitDot])) (by decide)
theorem nameOk_pos {l : List UInt8} (h : nameOk l = true) : 0 < l.length := by
  obtain ⟨c, r, rfl, _⟩ := nameOk_head h
  simp

theorem lowL_drop (l : List UInt8) (n : Nat) : lowL (l.drop n) = (lowL l).drop n := by simp [lowL]
theorem lowL_append (a b : List UInt8) : lowL (a ++ b) = lowL a ++ lowL b := by simp [lowL]

/-- Ending by whole labels, for names in lower case. -/
theorem hasSufL_iff {a b : List UInt8} (ha : nameOk a = true) (hb : nameOk b = true) (la : lowL a = a) (lb : lowL b = b) : hasSufL a b = (decide (a = b) || underL b a) := by
  obtain ⟨c, r, ea, hc⟩ := nameOk_head ha
  obtain ⟨d, r', eb, hd⟩ := nameOk_head hb
  have hh : (a.head? == some 46) = false := by rw [ea]; simp [hc]
  have hsame : sameL a (b.drop (b.length - a.length)) = decide (a = b.drop (b.length - a.length)) := by
    unfold sameL; rw [la, lowL_drop, lb]
  have hsame2 : sameL (b.drop (b.length - a.length)) a = decide (b.drop (b.length - a.length) = a) := by
    unfold sameL; rw [la, lowL_drop, lb]
  unfold hasSufL underL
  rw [hsame, hsame2, hh, Bool.false_or]
  rcases Nat.lt_trichotomy a.length b.length with h | h | h
  · have h1 : decide (a.length ≤ b.length) = true := by simp; omega
    have h2 : decide (a.length = b.length) = false := by simp; omega
    have h3 : decide (a = b) = false := by
      rw [decide_eq_false_iff_not]; intro e; rw [e] at h; omega
    rw [h1, h2, h3, Bool.true_and, Bool.false_or, Bool.false_or]
    by_cases h4 : a.length + 1 < b.length
    · rw [decide_eq_true h4, Bool.true_and, Bool.and_comm]
      congr 1
      rw [decide_eq_decide]
      exact eq_comm
    · have e1 : b.length - a.length - 1 = 0 := by omega
      rw [decide_eq_false h4, e1, eb]
      simp [hd]
  · have h1 : decide (a.length ≤ b.length) = true := by simp; omega
    have h4 : decide (a.length + 1 < b.length) = false := by simp; omega
    have e0 : b.length - a.length = 0 := by omega
    rw [h1, h4, e0]
    simp [h]
  · have h1 : decide (a.length ≤ b.length) = false := by simp; omega
    have h3 : decide (a = b) = false := by
      rw [decide_eq_false_iff_not]; intro e; rw [e] at h; omega
    have h4 : decide (a.length + 1 < b.length) = false := by simp; omega
    rw [h1, h3, h4]
    simp
end Go.Proofs.YtdinnpjplgkffaaGreatDoor
