/-
  Walks: strings.IndexByte, trimFirstLabel (the name from its first dot on), impl.Trim. Texts of at most 2^31 bytes.
-/
import Derived.Test.YtdinnpjplgkffaaW3
import Derived.Lib.Bytealg
import Derived.Laws.Externs
namespace Go.Proofs.Ytdinnpjplgkffaa
open Go.RowKit

/-- A name from its first dot on. -/
def trimL (l : List UInt8) : List UInt8 := l.dropWhile (fun c => c != 46)

theorem indexByte_dot : ∀ l : List UInt8, (Lib.indexByte l 46 = -1 ∧ trimL l = []) ∨ ∃ i : Nat, i < l.length ∧ Lib.indexByte l 46 = i ∧ trimL l = l.drop i
  | [] => .inl ⟨rfl, rfl⟩
  | c :: r => by
    have ih := indexByte_dot r
    unfold Lib.indexByte trimL
    by_cases hc : c = 46
    · subst hc
      exact .inr ⟨0, by simp, by simp, by simp⟩
    · have h1 : (c == 46) = false := by simp [hc]
      have h2 : (c != 46) = true := by simp [hc]
      rw [h1, List.dropWhile_cons, h2]
      rcases ih with ⟨e1, e2⟩ | ⟨i, hi, e1, e2⟩
      · left; simp [e1]; exact e2
      · right
        refine ⟨i + 1, by simp; omega, ?_, ?_⟩
        · rw [e1]; simp; try omega
        · simp; exact e2
end Go.Proofs.Ytdinnpjplgkffaa
