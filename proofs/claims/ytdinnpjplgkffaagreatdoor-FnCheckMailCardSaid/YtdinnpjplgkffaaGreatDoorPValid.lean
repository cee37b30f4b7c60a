/-
  Plain laws: names of hosts are valid domains; a label of nothing in the middle makes none. No condition.
-/
import Derived.Test.YtdinnpjplgkffaaGreatDoorPCompare
import Derived.Test.YtdinnpjplgkffaaGreatDoorW10
namespace Go.Proofs.YtdinnpjplgkffaaGreatDoor

theorem splitDot_append : ∀ a b : List UInt8, splitDot (a ++ 46 :: b) = splitDot a ++ splitDot b
  | [], b => by simp [splitDot]
  | c :: r, b => by
    have ih := splitDot_append r b
    show splitDot (c :: (r ++ 46 :: b)) = _
    by_cases hc : c = 46
    · rw [splitDot, if_pos hc, ih, splitDot, if_pos hc]; rfl
    · rw [splitDot, if_neg hc, ih, splitDot, if_neg hc]
      cases hs : splitDot r with
      | nil => exact absurd hs (splitDot_ne r)
      | cons x t => rfl
theorem okByte_vis {n : Nat} (h : okByte n = true) : visB n = true := by
  unfold okByte low at h
  unfold visB
  simp at h ⊢
  split at h <;> omega
theorem nameOk_vis {l : List UInt8} (h : nameOk l = true) : l.all (fun c => visB c.toNat) = true := by
  rw [List.all_eq_true]
  intro c hc
  rcases nameOk_byte h c hc with rfl | h1
  · rfl
  · exact okByte_vis h1
theorem nameOk_validN {l : List UInt8} (h : nameOk l = true) : validN l = true := by
  unfold validN
  rw [nameOk_vis h, Bool.true_and, List.all_eq_true]
  intro x hx
  have := labelOk_ne (nameOk_labels h x hx)
  cases x with
  | nil => simp at this
  | cons _ _ => rfl
theorem splitDot_last {l : List UInt8} (h : l.getLast? = some 46) : [] ∈ splitDot l := by
  obtain ⟨a, rfl⟩ := List.getLast?_eq_some_iff.1 h
  rw [splitDot_append]
  simp [splitDot]
theorem nameOk_last46 {l : List UInt8} (h : nameOk l = true) : l.getLast? ≠ some 46 := fun e => by
  have := labelOk_ne (nameOk_labels h [] (splitDot_last e))
  simp at this
theorem nameOk_head46 {l : List UInt8} (h : nameOk l = true) : (l.head? == some 46) = false := by
  obtain ⟨c, r, rfl, hc⟩ := nameOk_head h
  simp [hc]
theorem nameOk_ne {l : List UInt8} (h : nameOk l = true) : l.isEmpty = false := by
  obtain ⟨c, r, rfl, hc⟩ := nameOk_head h
  rfl
/-- A name of a host may be a domain, and a constraint. -/
theorem nameOk_validL {l : List UInt8} (h : nameOk l = true) (c : Bool) : validL l c = true := by
  unfold validL
  rw [nameOk_head46 h, Bool.and_false]
  have := nameOk_last46 h
  simp [this, nameOk_validN h]
theorem validL_dot {l : List UInt8} (h : nameOk l = true) : validL (46 :: l) true = true := by
  unfold validL
  have h1 : (46 :: l).getLast? ≠ some 46 := by
    obtain ⟨c, r, rfl, _⟩ := nameOk_head h
    rw [List.getLast?_cons_cons]
    exact nameOk_last46 h
  simp [h1, nameOk_validN h]
theorem validL_dot_not (l : List UInt8) : validL (46 :: l) false = false := by
  have h1 : validN (46 :: l) = false := by
    unfold validN
    have h1 : (splitDot (46 :: l)).all (fun x => !x.isEmpty) = false := by simp [splitDot]
    rw [h1, Bool.and_false]
  unfold validL
  simp [h1]
/-- A label of nothing in the middle. -/
theorem validL_mid {a : List UInt8} (b : List UInt8) (h : nameOk a = true) (c : Bool) : validL (a ++ 46 :: 46 :: b) c = false := by
  obtain ⟨d, r, rfl, hd⟩ := nameOk_head h
  have h0 : ((d :: r ++ 46 :: 46 :: b).head? == some 46) = false := by simp [hd]
  have h1 : (splitDot (d :: r ++ 46 :: 46 :: b)).all (fun x => !x.isEmpty) = false := by
    rw [splitDot_append, List.all_append]
    have : (splitDot (46 :: b)).all (fun x => !x.isEmpty) = false := by simp [splitDot]
    rw [this, Bool.and_false]
  have h2 : validN (d :: r ++ 46 :: 46 :: b) = false := by unfold validN; rw [h1, Bool.and_false]
  unfold validL
  rw [h0, Bool.and_false, if_neg (by simp), h2, Bool.and_false]
  rfl
end Go.Proofs.YtdinnpjplgkffaaGreatDoor
