/-
  Walks: spec.lower, spec.labelOk, spec.Labels, spec.NameOk, laws.beyond: what each returns. Texts of at most 2^31 bytes.
-/
import Derived.Test.YtdinnpjplgkffaaGreatDoorBase
import Derived.Test.YtdinnpjplgkffaaGreatDoorPlain
namespace Go.Proofs.YtdinnpjplgkffaaGreatDoor
open Go.RowKit

theorem lower_any (c : UInt8) (w : World) : Calls Tryz.prog 27 #[.int .u8 (c.toNat : Int)] w fun e w' => e = .returned (.int .u8 ((lowB c).toNat : Int)) ∧ w = w' := by
  have hc := c.toNat_lt
  have e := lowB_toNat c
  unfold low at e
  generalize (lowB c).toNat = m at e
  generalize c.toNat = n at *
  by_cases h1 : 65 ≤ n
  · by_cases h2 : n ≤ 90
    · rw [if_pos ⟨h1, h2⟩] at e
      subst e
      go_enter Tryz.func27, Tryz.ntmps27
      go_wp2
      go_ret
      exact ⟨by simp, rfl⟩
    · rw [if_neg (by omega)] at e
      subst e
      go_enter Tryz.func27, Tryz.ntmps27
      go_wp2
      go_ret
      exact ⟨rfl, rfl⟩
  · rw [if_neg (by omega)] at e
    subst e
    go_enter Tryz.func27, Tryz.ntmps27
    go_wp2
    go_ret
    exact ⟨rfl, rfl⟩

theorem okByte_true {c : UInt8} (h : okByte c.toNat = true) : (97 ≤ (lowB c).toNat ∧ (lowB c).toNat ≤ 122) ∨ (48 ≤ (lowB c).toNat ∧ (lowB c).toNat ≤ 57) ∨ ((lowB c).toNat ≤ 45 ∧ 45 ≤ (lowB c).toNat ∧ (((lowB c).toNat : Int) == 45) = true) := by
  rw [lowB_toNat]; unfold okByte at h; simp at h ⊢; omega
theorem okByte_false {c : UInt8} (h : okByte c.toNat = false) : (((lowB c).toNat : Int) == 45) = false ∧ ((122 < (lowB c).toNat ∧ decide (((lowB c).toNat : Int) ≤ 122) = false ∧ decide (((lowB c).toNat : Int) ≤ 57) = false) ∨ (57 < (lowB c).toNat ∧ (lowB c).toNat < 97 ∧ decide (((lowB c).toNat : Int) ≤ 57) = false) ∨ (lowB c).toNat < 48) := by
  rw [lowB_toNat]; unfold okByte at h; simp at h ⊢; omega
theorem labelOk_no {l : List UInt8} (k : Nat) (h : k < l.length) (hb : okByte (l[k]).toNat = false) : labelOk l = false := by
  unfold labelOk
  rw [Bool.and_eq_false_iff]
  right
  rw [List.all_eq_false]
  exact ⟨l[k], List.getElem_mem h, by simp [hb]⟩
theorem bytes_head (s : ByteArray) (h : 0 < s.size) : (bytes s).head? = some (s[0]'h) := by rw [List.head?_eq_getElem?, bytes_get s 0 h]
theorem bytes_last (s : ByteArray) (h : s.size - 1 < s.size) : (bytes s).getLast? = some (s[s.size - 1]'h) := by rw [List.getLast?_eq_getElem?, bytes_length, bytes_get s _ h]
theorem bytes_at (s : ByteArray) (k : Nat) (h : k < s.size) (h' : k < (bytes s).length) : (bytes s)[k] = s[k] := by
  have := bytes_get s k h
  rw [List.getElem?_eq_getElem h'] at this
  exact Option.some.inj this

set_option maxHeartbeats 1000000 in
theorem labelOk_any (s : ByteArray) (hs : s.size ≤ 2147483647) (w : World) :
    Calls Tryz.prog 26 #[.string s] w fun e w' => e = .returned (.bool (labelOk (bytes s))) ∧ w = w' := by
  have hlen := bytes_length s
  by_cases h0 : s.size < 1
  · have e : labelOk (bytes s) = false := by unfold labelOk; simp; omega
    rw [e]; clear e hlen
    go_enter Tryz.func26, Tryz.ntmps26
    go_wp2
    go_ret
    exact ⟨rfl, rfl⟩
  by_cases h1 : 63 < s.size
  · have e : labelOk (bytes s) = false := by unfold labelOk; simp; omega
    rw [e]; clear e hlen
    go_enter Tryz.func26, Tryz.ntmps26
    go_wp2
    go_ret
    exact ⟨rfl, rfl⟩
  have p0 : 0 < s.size := by omega
  have p1 : s.size - 1 < s.size := by omega
  have e0 := bytes_head s p0
  have e1 := bytes_last s p1
  by_cases h2 : (s[0]'p0).toNat = 45
  · have e : labelOk (bytes s) = false := by
      have : s[0]'p0 = 45 := UInt8.toNat_inj.1 h2
      unfold labelOk; simp [e0, this]
    rw [e]; clear e hlen e0 e1
    have h2' : (((s[0]'p0).toNat : Int) == 45) = true := by simp [h2]
    clear h2
    go_enter Tryz.func26, Tryz.ntmps26
    go_wp2
    go_ret
    exact ⟨rfl, rfl⟩
  have g2 : (((s[0]'p0).toNat : Int) == 45) = false := by simp; omega
  by_cases h3 : (s[s.size - 1]'p1).toNat = 45
  · have e : labelOk (bytes s) = false := by
      have : s[s.size - 1]'p1 = 45 := UInt8.toNat_inj.1 h3
      unfold labelOk; simp [e1, this]
    rw [e]; clear e hlen e0 e1
    have h3' : (((s[s.size - 1]'p1).toNat : Int) == 45) = true := by simp [h3]
    clear h3
    go_enter Tryz.func26, Tryz.ntmps26
    go_wp2
    go_ret
    exact ⟨rfl, rfl⟩
  have g3 : (((s[s.size - 1]'p1).toNat : Int) == 45) = false := by simp; omega
  have E : Aside (∀ b, (bytes s).all (fun c => okByte c.toNat) = b → labelOk (bytes s) = b) := by
    intro b hb
    have n2 : s[0]'p0 ≠ 45 := fun h => h2 (by rw [h]; rfl)
    have n3 : s[s.size - 1]'p1 ≠ 45 := fun h => h3 (by rw [h]; rfl)
    unfold labelOk
    rw [hb, e0, e1]
    simp [n2, n3]
    omega
  clear hlen e0 e1 h2 h3
  go_enter Tryz.func26, Tryz.ntmps26
  go_wp2
  go_loopg [3] s.size (fun kx i wr => w = wr ∧ ∃ k : Nat, k ≤ s.size ∧ s.size - k ≤ kx ∧ i = .int .i64 k ∧ Aside (∀ j (h : j < s.size), j < k → okByte (s[j]).toNat = true))
  case atStart => exact ⟨rfl, 0, by omega, by omega, rfl, fun j h h' => by omega⟩
  case round =>
    obtain ⟨rfl, k, hk, hg, rfl, A⟩ := hrel
    by_cases hlt : k < s.size
    · by_cases hok : okByte (s[k]).toNat = true
      · have A2 : Aside (∀ j (h : j < s.size), j < k + 1 → okByte (s[j]).toNat = true) := fun j h hj => by
          by_cases e : j < k
          · exact A.out j h e
          · have : j = k := by omega
            subst this; exact hok
        rcases okByte_true hok with h | h | h
        all_goals
          clear hok A E
          go_wp2_with (go_at_call 27; refine (lower_any _ _).mono ?_; rintro e w' ⟨rfl, rfl⟩)
          go_roundg (s.size - (k + 1))
          case measure => omega
          case rel => exact ⟨rfl, k + 1, by omega, by omega, by go_num, A2⟩
      · have hok' : okByte (s[k]).toNat = false := by simpa using hok
        have F : Aside (labelOk (bytes s) = false) := labelOk_no k (by rw [bytes_length]; exact hlt) (by rw [bytes_at s k hlt]; exact hok')
        obtain ⟨h45, h⟩ := okByte_false hok'
        rcases h with ⟨h, h', h''⟩ | ⟨h, h', h''⟩ | h
        all_goals
          clear hok hok' A E
          go_wp2_with (go_at_call 27; refine (lower_any _ _).mono ?_; rintro e w' ⟨rfl, rfl⟩)
          go_ret
          exact ⟨ret_bool F.out.symm, rfl⟩
    · have F : Aside (labelOk (bytes s) = true) := E.out true (by
        rw [List.all_eq_true]
        intro c hc
        obtain ⟨j, hj, rfl⟩ := List.getElem_of_mem hc
        have hj' : j < s.size := by rw [bytes_length] at hj; exact hj
        rw [bytes_at s j hj']
        exact A.out j hj' (by omega))
      clear A E
      go_wp2
      go_ret
      exact ⟨ret_bool F.out.symm, rfl⟩
end Go.Proofs.YtdinnpjplgkffaaGreatDoor
