/-
  Walks over a row of texts: zzFits1, sumTexts, Visible, Joined, Turned.
-/
import Derived.Test.YtdnbbodolpgphaaW14
namespace Go.Proofs.Ytdnbbodolpgphaa
open Go.RowKit

def fitsP (bs : List ByteArray) : Prop := bs.length ≤ 2147483647 ∧ ∀ j (h : j < bs.length), (bs[j]).size ≤ 2147483647
set_option maxHeartbeats 1000000 in
theorem fits_any (A : Option Addr) (n c : Nat) (bs : List ByteArray) (w : World) (b : Bool) (hb : b = true ↔ fitsP bs) (hn : n = bs.length) (hl : n ≤ maxLen) (hm : ∀ x ∈ bs, x.size ≤ maxLen) (hr : Rd w A (strs bs)) :
    Calls Try.prog 37 #[.slice A n c] w (Ret (.bool b) w) := by
  subst hn
  have HR := Lib.hid hr
  have HB := Lib.hid hb
  have HM := Lib.hid hm
  unfold maxLen at hl
  clear hr hb hm
  by_cases h1 : 2147483647 < bs.length
  · have F : Hid (b = false) := by
      cases b
      · rfl
      · exact absurd (HB.out.1 rfl).1 (by omega)
    clear HB
    go_enter Try.func37, Try.ntmps37
    go_wp2
    go_ret
    exact ⟨ret_bool F.out.symm, Below.refl _ _⟩
  have hle : bs.length ≤ 2147483647 := by omega
  clear h1
  go_enter Try.func37, Try.ntmps37
  go_wp2
  go_loopg [10] bs.length (fun kx i wr => w = wr ∧ ∃ k : Nat, k ≤ bs.length ∧ bs.length - k ≤ kx ∧ i = .int .i64 k ∧ Aside (∀ j (h : j < bs.length), j < k → (bs[j]).size ≤ 2147483647))
  case atStart => exact ⟨rfl, 0, by omega, by omega, rfl, fun j h h' => by omega⟩
  case round =>
    obtain ⟨rfl, k, hk, hg, rfl, Q⟩ := hrel
    by_cases hlt : k < bs.length
    · obtain ⟨ad1, rfl, h1l, hc1⟩ := HR.out k _ (strs_get hlt)
      have hmx := HM.out _ (List.getElem_mem hlt)
      unfold maxLen at hmx
      by_cases hx : 2147483647 < (bs[k]).size
      · have F : Hid (b = false) := by
          cases b
          · rfl
          · exact absurd ((HB.out.1 rfl).2 k hlt) (by omega)
        clear Q HB HM
        generalize bs[k] = x at *
        go_wp2
        go_ret
        exact ⟨ret_bool F.out.symm, Below.refl _ _⟩
      · have hx' : (bs[k]).size ≤ 2147483647 := by omega
        have Q2 : Aside (∀ j (h : j < bs.length), j < k + 1 → (bs[j]).size ≤ 2147483647) := fun j h hj => by
          by_cases e : j < k
          · exact Q.out j h e
          · have : j = k := by omega
            subst this; exact hx'
        clear Q hx
        generalize bs[k] = x at *
        go_wp2
        go_roundg (bs.length - (k + 1))
        case measure => omega
        case rel => exact ⟨rfl, k + 1, by omega, by omega, by go_num, Q2⟩
    · have F : Hid (b = true) := HB.out.2 ⟨hle, fun j h => Q.out j h (by omega)⟩
      clear Q HB HM
      go_wp2
      go_ret
      exact ⟨ret_bool F.out.symm, Below.refl _ _⟩

def sumB (bs : List ByteArray) : Nat := bs.length + (bs.map (·.size)).sum
theorem take_sum {bs : List ByteArray} {k : Nat} (h : k < bs.length) : ((bs.take (k + 1)).map (·.size)).sum = ((bs.take k).map (·.size)).sum + (bs[k]).size := by
  rw [List.take_succ_eq_append_getElem h, List.map_append, List.sum_append]
  simp only [List.map_cons, List.map_nil, List.sum_cons, List.sum_nil, Nat.add_zero]
set_option maxHeartbeats 1000000 in
theorem sum_any (A : Option Addr) (n c : Nat) (bs : List ByteArray) (w : World) (hf : fitsP bs) (hn : n = bs.length) (hr : Rd w A (strs bs)) :
    Calls Try.prog 38 #[.slice A n c] w (Ret (.int .i64 (sumB bs)) w) := by
  subst hn
  have HR := Lib.hid hr
  have HF := Lib.hid hf.2
  have hle := hf.1
  clear hr hf
  go_enter Try.func38, Try.ntmps38
  go_wp2
  go_loopg [3, 10] bs.length (fun kx s i wr => w = wr ∧ ∃ k t : Nat, k ≤ bs.length ∧ bs.length - k ≤ kx ∧ i = .int .i64 k ∧ s = .int .i64 t ∧ t ≤ bs.length + k * 2147483647 ∧ Aside (t = bs.length + ((bs.take k).map (·.size)).sum))
  case atStart => exact ⟨rfl, 0, bs.length, by omega, by omega, rfl, rfl, by omega, by show _ = _; simp⟩
  case round =>
    obtain ⟨rfl, k, t, hk, hg, rfl, rfl, ht, Q⟩ := hrel
    by_cases hlt : k < bs.length
    · obtain ⟨ad1, rfl, h1l, hc1⟩ := HR.out k _ (strs_get hlt)
      have hx := HF.out k hlt
      have Q2 : Aside (t + (bs[k]).size = bs.length + ((bs.take (k + 1)).map (·.size)).sum) := by
        show _ = _
        rw [take_sum hlt, Q.out]; omega
      clear Q HF
      generalize bs[k] = x at *
      go_wp2
      go_roundg (bs.length - (k + 1))
      case measure => omega
      case rel => exact ⟨rfl, k + 1, t + x.size, by omega, by omega, by go_num, by go_num, by omega, Q2⟩
    · have F : Hid (t = sumB bs) := by
        show _ = _
        rw [Q.out, List.take_of_length_le (by omega)]; rfl
      clear Q HF
      go_wp2
      go_ret
      exact ⟨ret_int (by rw [F.out]), Below.refl _ _⟩

/-- A label of visible bytes, without a dot. -/
def seenP (x : ByteArray) : Prop := x.size ≠ 0 ∧ ∀ j (h : j < x.size), visB (x[j]).toNat = true ∧ x[j] ≠ 46
set_option maxHeartbeats 1000000 in
theorem visible_any (s : ByteArray) (hs : s.size ≤ 2147483647) (w : World) (b : Bool) (hb : b = true ↔ seenP s) :
    Calls Try.prog 39 #[.string s] w (Ret (.bool b) w) := by
  have HB := Lib.hid hb
  clear hb
  go_enter Try.func39, Try.ntmps39
  go_wp2
  go_loopg [3] s.size (fun kx i wr => w = wr ∧ ∃ k : Nat, k ≤ s.size ∧ s.size - k ≤ kx ∧ i = .int .i64 k ∧ Aside (∀ j (h : j < s.size), j < k → visB (s[j]).toNat = true ∧ s[j] ≠ 46))
  case atStart => exact ⟨rfl, 0, by omega, by omega, rfl, fun j h h' => by omega⟩
  case round =>
    obtain ⟨rfl, k, hk, hg, rfl, Q⟩ := hrel
    by_cases hlt : k < s.size
    · by_cases hv : visB (s[k]'hlt).toNat = true ∧ s[k]'hlt ≠ 46
      · have Q2 : Aside (∀ j (h : j < s.size), j < k + 1 → visB (s[j]).toNat = true ∧ s[j] ≠ 46) := fun j h hj => by
          by_cases e : j < k
          · exact Q.out j h e
          · have : j = k := by omega
            subst this; exact hv
        have h1 : 33 ≤ (s[k]'hlt).toNat ∧ (s[k]'hlt).toNat ≤ 126 := by have := hv.1; unfold visB at this; simp at this; exact this
        have h2 := ne46 hv.2
        obtain ⟨h1, h3⟩ := h1
        clear Q hv HB
        go_wp2
        go_roundg (s.size - (k + 1))
        case measure => omega
        case rel => exact ⟨rfl, k + 1, by omega, by omega, by go_num, Q2⟩
      · have F : Hid (b = false) := by
          cases b
          · rfl
          · exact absurd ((HB.out.1 rfl).2 k hlt) hv
        have hc : (s[k]'hlt).toNat < 33 ∨ (33 ≤ (s[k]'hlt).toNat ∧ 126 < (s[k]'hlt).toNat) ∨ (33 ≤ (s[k]'hlt).toNat ∧ (s[k]'hlt).toNat ≤ 126 ∧ (((s[k]'hlt).toNat : Int) == 46) = true) := by
          by_cases h46 : s[k]'hlt = 46
          · right; right
            exact ⟨by rw [h46]; decide, by rw [h46]; decide, eq46 h46⟩
          · have : ¬ visB (s[k]'hlt).toNat = true := fun h => hv ⟨h, h46⟩
            unfold visB at this
            simp at this
            omega
        clear Q hv HB
        rcases hc with h1 | ⟨h1, h2⟩ | ⟨h1, h2, h3⟩
        all_goals
          go_wp2
          go_ret
          exact ⟨ret_bool F.out.symm, Below.refl _ _⟩
    · by_cases h0 : s.size = 0
      · have F : Hid (b = false) := by
          cases b
          · rfl
          · exact absurd h0 (HB.out.1 rfl).1
        have he : (s.toList == []) = true := by
          have : bytes s = [] := List.eq_nil_of_length_eq_zero (by rw [bytes_length]; exact h0)
          rw [ByteArray.toList_eq]
          change (bytes s == []) = true
          rw [this]; rfl
        clear Q HB h0
        go_wp2
        go_ret
        exact ⟨ret_bool F.out.symm, Below.refl _ _⟩
      · have F : Hid (b = true) := HB.out.2 ⟨h0, fun j h => Q.out j h (by omega)⟩
        have he : (s.toList == []) = false := by
          simp only [beq_eq_false_iff_ne, ne_eq]
          intro e
          apply h0
          rw [ByteArray.toList_eq] at e
          rw [← bytes_length]
          change s.data.toList.length = 0
          rw [e]; rfl
        clear Q HB h0
        go_wp2
        go_ret
        exact ⟨ret_bool F.out.symm, Below.refl _ _⟩
end Go.Proofs.Ytdnbbodolpgphaa
