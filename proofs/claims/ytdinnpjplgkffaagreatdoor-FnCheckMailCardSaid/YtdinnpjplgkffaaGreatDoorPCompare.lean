/-
  Plain laws on comparing names from behind: 0 for the same one, turned round where they are exchanged, one row of three. No condition.
-/
import Derived.Test.YtdinnpjplgkffaaGreatDoorW9
namespace Go.Proofs.YtdinnpjplgkffaaGreatDoor

theorem cmpN_range : ∀ x y : List Nat, cmpN x y = -1 ∨ cmpN x y = 0 ∨ cmpN x y = 1
  | [], [] => by simp [cmpN]
  | [], _ :: _ => by simp [cmpN]
  | _ :: _, [] => by simp [cmpN]
  | x :: xs, y :: ys => by
    have := cmpN_range xs ys
    unfold cmpN
    split
    · simp
    · split
      · simp
      · exact this
theorem cmpN_zero : ∀ x y : List Nat, cmpN x y = 0 ↔ x = y
  | [], [] => by simp [cmpN]
  | [], _ :: _ => by simp [cmpN]
  | _ :: _, [] => by simp [cmpN]
  | x :: xs, y :: ys => by
    have := cmpN_zero xs ys
    unfold cmpN
    split
    · constructor
      · intro h; simp at h
      · intro h; simp at h; omega
    · split
      · constructor
        · intro h; simp at h
        · intro h; simp at h; omega
      · rw [this]
        constructor
        · intro h; simp [h]; omega
        · intro h; simp at h; exact h.2
theorem cmpN_neg : ∀ x y : List Nat, cmpN y x = - cmpN x y
  | [], [] => by simp [cmpN]
  | [], _ :: _ => by simp [cmpN]
  | _ :: _, [] => by simp [cmpN]
  | x :: xs, y :: ys => by
    have := cmpN_neg xs ys
    unfold cmpN
    rcases Nat.lt_trichotomy x y with h | h | h
    · rw [if_neg (by omega), if_pos h, if_pos h]; rfl
    · rw [if_neg (by omega), if_neg (by omega), if_neg (by omega), if_neg (by omega), this]
    · rw [if_pos h, if_neg (by omega), if_pos h]
theorem cmpN_trans : ∀ x y z : List Nat, cmpN x y ≤ 0 → cmpN y z ≤ 0 → cmpN x z ≤ 0
  | [], _, [] => by simp [cmpN]
  | [], _, _ :: _ => by simp [cmpN]
  | _ :: _, [], _ => by simp [cmpN]
  | _ :: _, _ :: _, [] => by simp [cmpN]
  | x :: xs, y :: ys, z :: zs => by
    have ih := cmpN_trans xs ys zs
    unfold cmpN
    intro h1 h2
    by_cases c1 : x < z
    · rw [if_pos c1]; omega
    · rw [if_neg c1]
      by_cases c2 : x < y
      · rw [if_pos c2] at h1
        by_cases c3 : y < z
        · omega
        · rw [if_neg c3] at h2
          by_cases c4 : z < y
          · rw [if_pos c4] at h2; omega
          · omega
      · rw [if_neg c2] at h1
        by_cases c3 : y < x
        · rw [if_pos c3] at h1; omega
        · rw [if_neg c3] at h1
          obtain rfl : x = y := by omega
          rw [if_neg c1] at h2
          by_cases c4 : z < x
          · rw [if_pos c4] at h2; omega
          · rw [if_neg c4] at h2 ⊢
            exact ih h1 h2

theorem mem_splitDot : ∀ (l : List UInt8) (c : UInt8), c ∈ l → c = 46 ∨ ∃ x ∈ splitDot l, c ∈ x
  | [], _, h => by simp at h
  | d :: r, c, h => by
    unfold splitDot
    by_cases hd : d = 46
    · rw [if_pos hd]
      rcases List.mem_cons.1 h with rfl | h
      · exact .inl hd
      · rcases mem_splitDot r c h with h | ⟨x, hx, hc⟩
        · exact .inl h
        · exact .inr ⟨x, List.mem_cons_of_mem _ hx, hc⟩
    · rw [if_neg hd]
      cases hs : splitDot r with
      | nil => exact absurd hs (splitDot_ne r)
      | cons a t =>
        rcases List.mem_cons.1 h with rfl | h
        · exact .inr ⟨c :: a, by simp, by simp⟩
        · rcases mem_splitDot r c h with h | ⟨x, hx, hc⟩
          · exact .inl h
          · rw [hs] at hx
            rcases List.mem_cons.1 hx with rfl | hx
            · exact .inr ⟨d :: x, by simp, by simp [hc]⟩
            · exact .inr ⟨x, by simp [hx], hc⟩
theorem labelOk_all {l : List UInt8} (h : labelOk l = true) : ∀ c ∈ l, okByte c.toNat = true := by
  unfold labelOk at h
  simp only [Bool.and_eq_true, List.all_eq_true] at h
  exact h.2
theorem nameOk_byte {l : List UInt8} (h : nameOk l = true) : ∀ c ∈ l, c = 46 ∨ okByte c.toNat = true := fun c hc => by
  rcases mem_splitDot l c hc with h1 | ⟨x, hx, hc⟩
  · exact .inl h1
  · exact .inr (labelOk_all (nameOk_labels h x hx) c hc)
/-- A byte of a name in lower case is told by its place in the table. -/
theorem tabF_inj {c d : UInt8} (hc : c = 46 ∨ okByte c.toNat = true) (hd : d = 46 ∨ okByte d.toNat = true) (lc : lowB c = c) (ld : lowB d = d) (h : tabF c.toNat = tabF d.toNat) : c = d := by
  have l1 : low c.toNat = c.toNat := by rw [← lowB_toNat, lc]
  have l2 : low d.toNat = d.toNat := by rw [← lowB_toNat, ld]
  have e : (46 : UInt8).toNat = 46 := rfl
  have k : ∀ x : UInt8, okByte x.toNat = true → low x.toNat = x.toNat → x.toNat ≠ 0 ∧ x.toNat ≠ 46 := fun x hx hl => by
    unfold okByte at hx
    rw [hl] at hx
    simp at hx
    omega
  refine UInt8.toNat_inj.1 ?_
  unfold tabF at h
  rcases hc with rfl | hc
  · rcases hd with rfl | hd
    · rfl
    · have := k d hd l2
      rw [if_pos e, if_neg this.2, l2] at h
      omega
  · have h1 := k c hc l1
    rcases hd with rfl | hd
    · rw [if_pos e, if_neg h1.2, l1] at h
      omega
    · have h2 := k d hd l2
      rw [if_neg h1.2, if_neg h2.2, l1, l2] at h
      exact h
theorem map_inj_on {f : UInt8 → Nat} : ∀ {a b : List UInt8}, (∀ c ∈ a, ∀ d ∈ b, f c = f d → c = d) → a.map f = b.map f → a = b
  | [], [], _, _ => rfl
  | [], _ :: _, _, h => by simp at h
  | _ :: _, [], _, h => by simp at h
  | x :: xs, y :: ys, hf, h => by
    simp only [List.map_cons, List.cons.injEq] at h
    rw [hf x (by simp) y (by simp) h.1, map_inj_on (fun c hc d hd => hf c (by simp [hc]) d (by simp [hd])) h.2]
theorem dnsCmp_zero {a b : List UInt8} (ha : nameOk a = true) (hb : nameOk b = true) (la : lowL a = a) (lb : lowL b = b) : dnsCmp a b = 0 ↔ a = b := by
  unfold dnsCmp
  rw [cmpN_zero]
  refine ⟨fun h => ?_, fun h => by rw [h]⟩
  unfold key at h
  have h := List.reverse_inj.1 h
  have low_mem : ∀ {l : List UInt8}, lowL l = l → ∀ c ∈ l, lowB c = c := fun {l} hl c hc => by
    obtain ⟨j, hj, rfl⟩ := List.getElem_of_mem hc
    have := congrArg (fun l : List UInt8 => l[j]?) hl
    simp only [lowL, List.getElem?_map, List.getElem?_eq_getElem hj, Option.map_some] at this
    exact Option.some.inj this
  exact map_inj_on (fun c hc d hd he => tabF_inj (nameOk_byte ha c hc) (nameOk_byte hb d hd) (low_mem la c hc) (low_mem lb d hd) he) h
end Go.Proofs.YtdinnpjplgkffaaGreatDoor
