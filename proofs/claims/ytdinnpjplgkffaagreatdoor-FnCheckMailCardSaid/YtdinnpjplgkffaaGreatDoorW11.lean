/-
  Walks: zzCount (no more dots than bytes), strings.LastIndexByte at a dot, domainToReverseLabels, impl.Labels. Texts of at most 2^31 - 2 bytes.
-/
import Derived.Test.YtdinnpjplgkffaaGreatDoorPValid
import Derived.Laws.AppendOwnNone
namespace Go.Proofs.YtdinnpjplgkffaaGreatDoor
open Go.RowKit

/-- A count of at most so many. -/
def CountPost (n : Nat) (w : World) (e : Ending) (w' : World) : Prop := ∃ k : Nat, k ≤ n ∧ e = .returned (.int .i64 (k : Int)) ∧ w = w'
/-- Where the last dot stands: -1 where there is none. -/
def LastDot (l : List UInt8) (r : Int) : Prop := (r = -1 ∧ ∀ c ∈ l, c ≠ 46) ∨ ∃ a b, l = a ++ 46 :: b ∧ (∀ c ∈ b, c ≠ 46) ∧ r = (a.length : Int)
def LastPost (l : List UInt8) (w : World) (e : Ending) (w' : World) : Prop := ∃ r : Int, LastDot l r ∧ e = .returned (.int .i64 r) ∧ w = w'
theorem drop_cons {s : ByteArray} {m : Nat} (h : m < s.size) : (bytes s).drop m = s[m]'h :: (bytes s).drop (m + 1) := by
  have hl : m < (bytes s).length := by rw [bytes_length]; exact h
  rw [List.drop_eq_getElem_cons hl, bytes_at s m h hl]
  rfl

end Go.Proofs.YtdinnpjplgkffaaGreatDoor
