/-
  Walks: zzCount (no more dots than bytes), strings.LastIndexByte at a dot, domainToReverseLabels, impl.Labels. Texts of at most 2^31 - 2 bytes.
-/
import Derived.Test.YtdnbbodolpgphaaPValid
import Derived.Laws.AppendOwnNone
namespace Go.Proofs.Ytdnbbodolpgphaa
open Go.RowKit

/-- A count of at most so many. -/
def CountPost (n : Nat) (w : World) (e : Ending) (w' : World) : Prop := ∃ k : Nat, k ≤ n ∧ e = .returned (.int .i64 (k : Int)) ∧ w = w'
set_option maxHeartbeats 1000000 in
theorem count_any (s : ByteArray) (hs : s.size ≤ 2147483647) (w : World) :
    Calls Try.prog 74 #[.string s, .string ⟨#[46]⟩] w (CountPost s.size w) := by
  go_enter Try.func74, Try.ntmps74
  go_wp2
  go_loopg [5, 6] (s.size + 1) (fun kx n i wr => w = wr ∧ ∃ k m : Nat, k ≤ s.size ∧ m ≤ k ∧ s.size + 1 - k ≤ kx ∧ n = .int .i64 m ∧ i = .int .i64 k)
  case atStart => exact ⟨rfl, 0, 0, by omega, by omega, by omega, rfl, rfl⟩
  case round =>
    obtain ⟨rfl, k, m, hk, hm, hg, rfl, rfl⟩ := hrel
    by_cases hlt : k + 1 ≤ s.size
    · by_cases he : ((s.extract k (k + 1)).toList == [46]) = true
      · go_wp2
        go_roundg (s.size + 1 - (k + 1))
        case measure => omega
        case rel => exact ⟨rfl, k + 1, m + 1, by omega, by omega, by omega, by go_num, by go_num⟩
      · have he' : ((s.extract k (k + 1)).toList == [46]) = false := by simpa using he
        clear he
        go_wp2
        go_roundg (s.size + 1 - (k + 1))
        case measure => omega
        case rel => exact ⟨rfl, k + 1, m, by omega, by omega, by omega, rfl, by go_num⟩
    · go_wp2
      go_ret
      exact ⟨m, by omega, rfl, rfl⟩

/-- Where the last dot stands: -1 where there is none. -/
def LastDot (l : List UInt8) (r : Int) : Prop := (r = -1 ∧ ∀ c ∈ l, c ≠ 46) ∨ ∃ a b, l = a ++ 46 :: b ∧ (∀ c ∈ b, c ≠ 46) ∧ r = (a.length : Int)
def LastPost (l : List UInt8) (w : World) (e : Ending) (w' : World) : Prop := ∃ r : Int, LastDot l r ∧ e = .returned (.int .i64 r) ∧ w = w'
theorem drop_cons {s : ByteArray} {m : Nat} (h : m < s.size) : (bytes s).drop m = s[m]'h :: (bytes s).drop (m + 1) := by
  have hl : m < (bytes s).length := by rw [bytes_length]; exact h
  rw [List.drop_eq_getElem_cons hl, bytes_at s m h hl]
  rfl

set_option maxHeartbeats 1000000 in
theorem lastIndex0_any (s : ByteArray) (hs : s.size ≤ 2147483647) (w : World) :
    Calls Try.prog 81 #[.string s, .int .u8 46] w (LastPost (bytes s) w) := by
  have I0 : Aside (∀ c ∈ (bytes s).drop (((s.size : Int) - 1) + 1).toNat, c ≠ 46) := by
    show ∀ c ∈ _, _
    rw [show (((s.size : Int) - 1) + 1).toNat = s.size by omega, List.drop_of_length_le (by rw [bytes_length]; omega)]
    simp
  go_enter Try.func81, Try.ntmps81
  go_wp2
  go_loopg [5] s.size (fun kx i wr => w = wr ∧ ∃ q : Int, -1 ≤ q ∧ q < s.size ∧ q + 1 ≤ kx ∧ i = .int .i64 q ∧ Aside (∀ c ∈ (bytes s).drop (q + 1).toNat, c ≠ 46))
  case atStart => exact ⟨rfl, (s.size : Int) - 1, by omega, by omega, by omega, rfl, I0⟩
  case round =>
    clear I0
    obtain ⟨rfl, q, hq1, hq2, hg, rfl, A⟩ := hrel
    by_cases hq : 0 ≤ q
    · obtain ⟨m, rfl⟩ := Int.eq_ofNat_of_zero_le hq
      have hm : m < s.size := by omega
      have hd := drop_cons hm
      by_cases hc : s[m]'hm = 46
      · have F : Hid (LastDot (bytes s) (m : Int)) := by
          refine .inr ⟨(bytes s).take m, (bytes s).drop (m + 1), ?_, A.out, ?_⟩
          · conv => lhs; rw [← List.take_append_drop m (bytes s), hd, hc]
          · rw [List.length_take, bytes_length]; omega
        have hc' := eq46 hc
        clear A hd hc
        go_wp2
        go_ret
        exact ⟨_, F.out, rfl, rfl⟩
      · have A2 : Aside (∀ c ∈ (bytes s).drop ((m : Int) - 1 + 1).toNat, c ≠ 46) := by
          show ∀ c ∈ _, _
          rw [show ((m : Int) - 1 + 1).toNat = m by omega, hd]
          intro c hcm
          rcases List.mem_cons.1 hcm with rfl | h
          · exact hc
          · exact A.out c h
        have hc' := ne46 hc
        clear A hd hc
        go_wp2
        go_roundg m
        case measure => omega
        case rel => exact ⟨rfl, (m : Int) - 1, by omega, by omega, by omega, rfl, A2⟩
    · obtain rfl : q = -1 := by omega
      have F : Hid (LastDot (bytes s) (-1)) := .inl ⟨rfl, by simpa using A.out⟩
      clear A
      go_wp2
      go_ret
      exact ⟨_, F.out, rfl, rfl⟩
theorem lastIndex_any (s : ByteArray) (hs : s.size ≤ 2147483647) (w : World) :
    Calls Try.prog 75 #[.string s, .int .u8 46] w (LastPost (bytes s) w) := by
  go_enter Try.func75, Try.ntmps75
  go_wp2_with (go_at_call 81; refine (lastIndex0_any s hs _).mono ?_; rintro e w' ⟨r, hr, rfl, rfl⟩)
  go_ret
  exact ⟨_, by assumption, rfl, rfl⟩
end Go.Proofs.Ytdnbbodolpgphaa
