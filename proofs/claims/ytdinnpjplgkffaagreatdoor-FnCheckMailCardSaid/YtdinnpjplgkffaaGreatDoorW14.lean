/-
  Walks: splitHostname, impl.Split, slices.Equal of texts. Texts of at most 2^30 bytes.
-/
import Derived.Test.YtdinnpjplgkffaaGreatDoorW13
namespace Go.Proofs.YtdinnpjplgkffaaGreatDoor
open Go.RowKit

theorem own_base {w : World} {b b' : Nat} {e : TypeId} {v : Value} {n : Nat} {xs : List Value} (h : w.ownsRow b e 1 v n xs) (hb : b' ≤ b) : w.ownsRow b' e 1 v n xs := by
  obtain ⟨h1, h2⟩ := h
  refine ⟨h1, ?_⟩
  rcases h2 with h | ⟨g, cap, cur, h3, h4, h5⟩
  · exact .inl h
  · exact .inr ⟨g, cap, cur, h3, by omega, h5⟩
theorem size_ofBytes (l : List UInt8) : (ofBytes l).size = l.length := by rw [← bytes_length, bytes_ofBytes]
theorem trim46_length (l : List UInt8) : (trim46 l).length ≤ l.length := by
  unfold trim46; split <;> simp
/-- The labels of a host's name. -/
def splitL (l : List UInt8) : List UInt8 := lowL (trim46 l)
theorem splitL_length (l : List UInt8) : (splitL l).length ≤ l.length := by unfold splitL; rw [lowL_length]; exact trim46_length l

theorem labelsB_le (l : List UInt8) : (labelsB l).length ≤ l.length + 1 := by
  have := splitDot_length_le l
  simpa [labelsB] using this
end Go.Proofs.YtdinnpjplgkffaaGreatDoor
