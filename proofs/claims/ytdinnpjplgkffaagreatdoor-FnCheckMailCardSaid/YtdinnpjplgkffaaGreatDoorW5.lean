/-
  Walks: toLowerCaseASCII, spec.Lower: each gives the text with its letters of ASCII in lower case. Texts of at most 2^31 bytes.
-/
import Derived.Test.YtdinnpjplgkffaaGreatDoorW4
import Derived.Laws.RangeAny
import Derived.Laws.IdiomStrings
namespace Go.Proofs.YtdinnpjplgkffaaGreatDoor
open Go.RowKit

def lowL (l : List UInt8) : List UInt8 := l.map lowB
theorem lowL_length (l : List UInt8) : (lowL l).length = l.length := by simp [lowL]
theorem lowB_same {c : UInt8} (h : ¬ (65 ≤ c.toNat ∧ c.toNat ≤ 90)) : lowB c = c := by
  apply UInt8.toNat_inj.1
  rw [lowB_toNat]; unfold low; rw [if_neg h]
theorem lowB_up {c : UInt8} (h : 65 ≤ c.toNat ∧ c.toNat ≤ 90) : (lowB c).toNat = c.toNat + 32 := by
  rw [lowB_toNat]; unfold low; rw [if_pos h]
theorem lowL_same {l : List UInt8} (h : ∀ c ∈ l, ¬ (65 ≤ c.toNat ∧ c.toNat ≤ 90)) : lowL l = l := by
  unfold lowL
  conv => rhs; rw [← List.map_id l]
  exact List.map_congr_left fun c hc => lowB_same (h c hc)

/-- A code point that is read and is no error: one byte of ASCII, or bytes from 128 on alone. -/
theorem decode_step (s : ByteArray) (pos : Nat) (h : pos < s.size) (hne : (Utf8.decode s pos).1 ≠ 65533) :
    ((Utf8.decode s pos).2 = 1 ∧ (Utf8.decode s pos).1 = (s[pos]'h).toNat) ∨
    (1 ≤ (Utf8.decode s pos).2 ∧ pos + (Utf8.decode s pos).2 ≤ s.size ∧ ∀ j (hj : j < s.size), pos ≤ j → j < pos + (Utf8.decode s pos).2 → 128 ≤ (s[j]'hj).toNat) := by
  by_cases ha : (s[pos]'h).toNat < 128
  · rw [decode_ascii s pos h ha]; exact .inl ⟨rfl, rfl⟩
  · right
    have hg : ∀ k (hk : pos + k < s.size), s.get! (pos + k) = s[pos + k]'hk := fun k hk => by
      show s.get! (pos + k) = _
      simp [ByteArray.get!, getElem!_pos, hk]
      rfl
    have h0 := get_at s pos h
    have key : ∀ n, pos + n ≤ s.size → (∀ k, 1 ≤ k → k < n → (s.get! (pos + k)).toNat / 64 = 2) → ∀ j (hj : j < s.size), pos ≤ j → j < pos + n → 128 ≤ (s[j]'hj).toNat := by
      intro n hn hc j hj h1 h2
      by_cases e : j = pos
      · subst e; omega
      · have := hc (j - pos) (by omega) (by omega)
        rw [hg (j - pos) (by omega)] at this
        simp only [show pos + (j - pos) = j by omega] at this
        omega
    revert hne
    simp only [Utf8.decode, h0, if_neg ha]
    split
    · rename_i hc
      simp only [Bool.and_eq_true, decide_eq_true_eq, beq_iff_eq] at hc
      split
      · intro _
        refine ⟨by omega, by omega, key 2 (by omega) fun k k1 k2 => ?_⟩
        obtain rfl : k = 1 := by omega
        exact hc.2.2
      · intro hne; exact absurd rfl hne
    · split
      · rename_i hc
        simp only [Bool.and_eq_true, decide_eq_true_eq, beq_iff_eq] at hc
        split
        · intro _
          refine ⟨by omega, by omega, key 3 (by omega) fun k k1 k2 => ?_⟩
          obtain rfl | rfl : k = 1 ∨ k = 2 := by omega
          · exact hc.1.2.2
          · exact hc.2.2
        · intro hne; exact absurd rfl hne
      · split
        · rename_i hc
          simp only [Bool.and_eq_true, decide_eq_true_eq, beq_iff_eq] at hc
          split
          · intro _
            refine ⟨by omega, by omega, key 4 (by omega) fun k k1 k2 => ?_⟩
            obtain rfl | rfl | rfl : k = 1 ∨ k = 2 ∨ k = 3 := by omega
            · exact hc.1.1.2.2
            · exact hc.1.2.2
            · exact hc.2.2
          · intro hne; exact absurd rfl hne
        · intro hne; exact absurd rfl hne

def u8s (l : List UInt8) : List Value := l.map fun c => Value.int .u8 (c.toNat : Int)
/-- A text made of bytes that lie in a row. -/
theorem conv_back (w : World) (A : Option Addr) (cap : Nat) (l : List UInt8) (n : Nat) (hn : n = l.length) (hr : Rd w A (u8s l)) :
    (convert 70 9 (.slice A n cap)).run Tryz.prog w = .ok (.string (ofBytes l)) w := by
  subst hn
  cases A with
  | some a =>
    refine run_convert_bytes_back w 70 9 5 a cap l Tryz.underlying70 Tryz.underlying5 Tryz.underlying9 fun j hj => ?_
    obtain ⟨ad, he, _, hc⟩ := hr j (.int .u8 (l[j].toNat : Int)) (by simp [u8s, hj])
    obtain rfl := Option.some.inj he
    exact hc
  | none =>
    cases l with
    | nil =>
      rw [run_convert_bytes_string w 70 9 5 none _ cap Tryz.underlying70 Tryz.underlying5 Tryz.underlying9]
      rfl
    | cons c r =>
      obtain ⟨ad, he, _⟩ := hr 0 (.int .u8 (c.toNat : Int)) (by simp [u8s])
      cases he

/-- The bytes of a text in a row of their own. -/
theorem conv_bytes (s : ByteArray) (w : World) : ∃ cap C lo, (convert 9 70 (.string s)).run Tryz.prog w = .ok (.slice (some ⟨w.heap.size, 0, none⟩) s.size cap) (w.drew.alloc (.cells C 5 (lo, lo + 1))) ∧
    s.size ≤ lo ∧ (∀ j (hj : j < s.size), C[j]? = some (.int .u8 ((s[j]'hj).toNat : Int))) := by
  refine ⟨_, _, _, run_bytes_of_string w 9 70 5 s Tryz.underlying9 Tryz.underlying70 Tryz.underlying5, ?_, fun j hj => bytesRow_at s _ j hj⟩
  simp [bytesRow]

set_option maxHeartbeats 1000000 in
theorem specLower_any (s : ByteArray) (hs : s.size ≤ 2147483647) (w : World) :
    Calls Tryz.prog 34 #[.string s] w (Ret (.string (ofBytes (lowL (bytes s)))) w) := by
  have hlen := Lib.hid (bytes_length s)
  have hmax : (2147483648 : Nat) ≤ maxLen := by unfold maxLen; omega
  obtain ⟨i0, hi, hz0, hz1, hz2⟩ := info_parts info_u8
  go_enter Tryz.func34, Tryz.ntmps34
  go_wp2
  go_loopg [3, 4] s.size (fun kx v i wr => ∃ k : Nat, k ≤ s.size ∧ s.size - k ≤ kx ∧ i = .int .i64 k ∧
    wr.ownsRow w.heap.size 5 1 v k (u8s ((lowL (bytes s)).take k)) ∧ Below w.heap.size w wr)
  case atStart => exact ⟨0, by omega, by omega, rfl, World.ownsRow_made w #[] 0 (Nat.le_refl _) (by omega) rfl, Below.one _ _⟩
  case round =>
    obtain ⟨k, hk, hg, rfl, hown, hb⟩ := hrel
    have hsz := hb.size
    by_cases hlt : k < s.size
    · have E : Aside (u8s ((lowL (bytes s)).take (k + 1)) = u8s ((lowL (bytes s)).take k) ++ [.int .u8 ((lowB s[k]).toNat : Int)]) := by
        have hkl : k < (lowL (bytes s)).length := by rw [lowL_length, hlen.out]; exact hlt
        show u8s _ = _
        rw [List.take_succ_eq_append_getElem hkl]
        have : (lowL (bytes s))[k] = lowB s[k] := by simp only [lowL, List.getElem_map]; exact congrArg lowB (bytes_at s k hlt _)
        rw [this]; simp [u8s]
      have hl := lower_any s[k] (wr)
      generalize lowB s[k] = c at hl E
      go_wp2_with (first | (go_at_call 27; refine hl.mono ?_; rintro e w' ⟨rfl, rfl⟩) | (at_builtin; refine wpList_append_own _ rfl _ _ 70 rfl w.heap.size 5 i0 _ 1 1 Tryz.underlying70 hi hz0 hz1 hz2 rfl (by decide) _ _ _ rfl (hown.alloc _) ⟨wr.heap.size, 0, none⟩ 1 1 [.int .u8 (c.toNat : Int)] rfl rfl ?c1 ?c2 ?c3 ?c4 ?c5 ?_))
      case c1 =>
        intro j u hj
        match j, hj with
        | 0, hj => simp at hj; subst hj; simp [Addr.add]
      case c2 => intro u hu; simp at hu; subst hu; rfl
      case c3 => omega
      case c4 => omega
      case c5 => simp; omega
      intro v' w1 hown' hgrow _
      have hb1 : Below w.heap.size w w1 := (hb.alloc hsz _).grown hgrow (by simp; omega) (fun k hk => (hown.lt k hk).1)
      rw [← E.out] at hown'
      clear hgrow hown hb E
      go_wp2
      go_roundg (s.size - (k + 1))
      case measure => omega
      case rel => exact ⟨k + 1, by omega, by omega, by go_num, hown', hb1⟩
    · obtain rfl : k = s.size := by omega
      rw [List.take_of_length_le (by rw [lowL_length, hlen.out]; omega)] at hown
      obtain ⟨A, cap, rfl, hnc, hcap, hrd, hll⟩ := Rd.own hown
      have hconv := conv_back wr A cap _ s.size (by simpa [u8s] using hll.symm) hrd
      clear hown hrd hll
      go_wp2
      go_ret
      exact ⟨rfl, hb⟩
end Go.Proofs.YtdinnpjplgkffaaGreatDoor
