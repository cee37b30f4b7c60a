/-
  Walks: zzContains at two dots, zzContainsRune at an @ (texts of ASCII). Texts of at most 2^31 bytes.
-/
import Derived.Test.YtdinnpjplgkffaaGreatDoorW14
namespace Go.Proofs.YtdinnpjplgkffaaGreatDoor
open Go.RowKit

def asciiP (s : ByteArray) : Prop := ∀ j (h : j < s.size), (s[j]).toNat < 128
set_option maxHeartbeats 1000000 in
theorem indexRune_any (s : ByteArray) (hs : s.size ≤ 2147483647) (ha : asciiP s) (w : World) :
    Calls Tryz.prog 54 #[.string s, .int .i32 64] w (fun e w' => ∃ r : Int, e = .returned (.int .i64 r) ∧ ((0 ≤ r ∧ ∃ j, ∃ h : j < s.size, s[j]'h = 64) ∨ (r = -1 ∧ ∀ j (h : j < s.size), s[j]'h ≠ 64)) ∧ Below w.heap.size w w') := by
  have HA := Lib.hid ha
  clear ha
  go_enter Tryz.func54, Tryz.ntmps54
  go_wp2
  go_loopg [5] (s.size + 1) (fun kx _ wr => ∃ k : Nat, k ≤ s.size ∧ s.size + 1 - k ≤ kx ∧ wr = w.iter s k ∧ Aside (∀ j (h : j < s.size), j < k → s[j]'h ≠ 64))
  case atStart => exact ⟨0, by omega, by omega, rfl, fun j h h' => by omega⟩
  case round =>
    obtain ⟨k, hk, hg, rfl, Q⟩ := hrel
    by_cases hlt : k < s.size
    · have hnext := fun ty => run_next_any (P := Tryz.prog) w s k ty hlt
      have h128 := HA.out k hlt
      rw [decode_ascii s k hlt h128] at hnext
      by_cases hc : s[k]'hlt = 64
      · have F := Lib.hid (show ∃ j, ∃ h : j < s.size, s[j]'h = 64 from ⟨k, hlt, hc⟩)
        have hb : (((s[k]'hlt).toNat : Int) == 64) = true := by rw [hc]; rfl
        clear Q hc
        go_wp2
        go_ret
        exact ⟨_, rfl, .inl ⟨by omega, F.out⟩, Below.one _ _⟩
      · have hb : (((s[k]'hlt).toNat : Int) == 64) = false := by
          simp only [beq_eq_false_iff_ne]
          intro h
          exact hc (UInt8.toNat_inj.1 (by have : (64 : UInt8).toNat = 64 := rfl; omega))
        have Q2 : Aside (∀ j (h : j < s.size), j < k + 1 → s[j]'h ≠ 64) := fun j h hj => by
          by_cases e : j < k
          · exact Q.out j h e
          · have : j = k := by omega
            subst this; exact hc
        clear Q hc
        go_wp2
        go_roundg (s.size + 1 - (k + 1))
        case measure => omega
        case rel => exact ⟨k + 1, by omega, by omega, rfl, Q2⟩
    · have hnext := fun ty => run_next_end (P := Tryz.prog) w s k ty hlt
      have F := Lib.hid (show ∀ j (h : j < s.size), s[j]'h ≠ 64 from fun j h => Q.out j h (by omega))
      clear Q
      go_wp2
      go_ret
      exact ⟨_, rfl, .inr ⟨rfl, F.out⟩, Below.one _ _⟩
set_option maxHeartbeats 1000000 in
theorem containsRune_any (s : ByteArray) (hs : s.size ≤ 2147483647) (ha : asciiP s) (w : World) :
    Calls Tryz.prog 40 #[.string s, .int .i32 64] w (Ret (.bool ((bytes s).any (· == 64))) w) := by
  have H := Lib.hid (fun W => indexRune_any s hs ha W)
  clear ha
  go_enter Tryz.func40, Tryz.ntmps40
  go_wp2_with fail
  refine (H.out _).mono ?_
  rintro e w1 ⟨r, rfl, hr, hb⟩
  rcases hr with ⟨h0, j, hj, hc⟩ | ⟨rfl, hno⟩
  · have F : Hid ((bytes s).any (· == 64) = true) := by
      show _ = _
      rw [List.any_eq_true]
      have hj' : j < (bytes s).length := by rw [bytes_length]; exact hj
      exact ⟨(bytes s)[j], List.getElem_mem hj', by rw [bytes_ix s j hj hj', hc]; rfl⟩
    clear hc
    go_wp2
    go_ret
    exact ⟨ret_bool F.out.symm, hb⟩
  · have F : Hid ((bytes s).any (· == 64) = false) := by
      show _ = _
      rw [List.any_eq_false]
      intro c hc
      obtain ⟨j, hj, rfl⟩ := List.getElem_of_mem hc
      have hj' : j < s.size := by rw [← bytes_length]; exact hj
      rw [bytes_ix s j hj' hj]
      simpa using hno j hj'
    clear hno
    go_wp2
    go_ret
    exact ⟨ret_bool F.out.symm, hb⟩

/-- Two dots side by side. -/
def twoP (s : ByteArray) : Prop := ∃ j, ∃ h : j + 1 < s.size, s[j]'(by omega) = 46 ∧ s[j + 1]'h = 46
theorem extract_two {s : ByteArray} {k : Nat} (h : k + 1 < s.size) : (s.extract k (k + 2)).toList = [s[k]'(by omega), s[k + 1]'h] := by
  rw [ByteArray.toList_eq]
  change bytes (s.extract k (k + 2)) = _
  have h0 : k < s.size := by omega
  rw [bytes_extract, drop_cons h0, drop_cons h]
  simp
set_option maxHeartbeats 1000000 in
theorem contains2_any (s : ByteArray) (hs : s.size ≤ 2147483647) (w : World) (b : Bool) (hb : b = true ↔ twoP s) :
    Calls Tryz.prog 47 #[.string s, .string ⟨#[46, 46]⟩] w (Ret (.bool b) w) := by
  have H : Hid (∀ w : World, Calls Tryz.prog 60 #[.string s, .string ⟨#[46, 46]⟩] w (fun e w' => ∃ r : Int, e = .returned (.int .i64 r) ∧ ((0 ≤ r ∧ b = true) ∨ (r = -1 ∧ b = false)) ∧ w = w')) := by
    intro w
    have HB := Lib.hid hb
    clear hb
    go_enter Tryz.func60, Tryz.ntmps60
    go_wp2
    go_loopg [5] (s.size + 1) (fun kx i wr => w = wr ∧ ∃ k : Nat, k ≤ s.size ∧ s.size + 1 - k ≤ kx ∧ i = .int .i64 k ∧ Aside (∀ j (h : j + 1 < s.size), j < k → ¬ (s[j]'(by omega) = 46 ∧ s[j + 1]'h = 46)))
    case atStart => exact ⟨rfl, 0, by omega, by omega, rfl, fun j h h' => by omega⟩
    case round =>
      obtain ⟨rfl, k, hk, hg, rfl, Q⟩ := hrel
      by_cases hlt : k + 1 < s.size
      · have he := extract_two hlt
        by_cases hc : s[k]'(by omega) = 46 ∧ s[k + 1]'hlt = 46
        · have F : Hid (b = true) := HB.out.2 ⟨k, hlt, hc⟩
          have hb : ((s.extract k (k + 2)).toList == [46, 46]) = true := by rw [he, hc.1, hc.2]; rfl
          clear Q he hc
          go_wp2
          go_ret
          exact ⟨_, rfl, .inl ⟨by omega, F.out⟩, rfl⟩
        · have hb : ((s.extract k (k + 2)).toList == [46, 46]) = false := by
            rw [he]
            simp only [beq_eq_false_iff_ne, ne_eq]
            intro e
            exact hc ⟨(List.cons.inj e).1, (List.cons.inj (List.cons.inj e).2).1⟩
          have Q2 : Aside (∀ j (h : j + 1 < s.size), j < k + 1 → ¬ (s[j]'(by omega) = 46 ∧ s[j + 1]'h = 46)) := fun j h hj => by
            by_cases e : j < k
            · exact Q.out j h e
            · have : j = k := by omega
              subst this; exact hc
          clear Q he hc
          go_wp2
          go_roundg (s.size + 1 - (k + 1))
          case measure => omega
          case rel => exact ⟨rfl, k + 1, by omega, by omega, by go_num, Q2⟩
      · have F : Hid (b = false) := by
          cases b
          · rfl
          · obtain ⟨j, h, hj⟩ := HB.out.1 rfl
            exact absurd hj (Q.out j h (by omega))
        clear Q
        go_wp2
        go_ret
        exact ⟨_, rfl, .inr ⟨rfl, F.out⟩, rfl⟩
  clear hb
  go_enter Tryz.func47, Tryz.ntmps47
  go_wp2_with fail
  refine (H.out _).mono ?_
  rintro e w1 ⟨r, rfl, hr, rfl⟩
  rcases hr with ⟨h0, rfl⟩ | ⟨rfl, rfl⟩
  all_goals
    go_wp2
    go_ret
    exact ⟨rfl, Below.refl _ _⟩
end Go.Proofs.YtdinnpjplgkffaaGreatDoor
