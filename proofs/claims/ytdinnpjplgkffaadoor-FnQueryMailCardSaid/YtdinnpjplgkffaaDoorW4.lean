/-
  Walks: strings.IndexByte, trimFirstLabel (the name from its first dot on), impl.Trim. Texts of at most 2^31 bytes.
-/
import Derived.Test.YtdinnpjplgkffaaDoorW3
import Derived.Lib.Bytealg
import Derived.Laws.Externs
namespace Go.Proofs.YtdinnpjplgkffaaDoor
open Go.RowKit

/-- A name from its first dot on. -/
def trimL (l : List UInt8) : List UInt8 := l.dropWhile (fun c => c != 46)

set_option maxRecDepth 100000 in
theorem sIndexByte_any (s : ByteArray) (c : Int) (w : World) :
    Calls Tryd.prog 92 #[.string s, .int .u8 c] w fun e w' => e = .returned (.int .i64 (Lib.indexByte s.data.toList c.toNat.toUInt8)) ∧ w = w' := by
  go_enter Tryd.func92, Tryd.ntmps92
  go_wp2
  rw [run_callFunc_extern Tryd.func108 (by kernel_rfl) (by kernel_rfl) (by kernel_rfl) (e := Extern.BytealgIndexByte.indexByte) (by kernel_rfl), Lib.run_indexByteString]
  simp only [Result.andThen]
  rw [Oper.upon_value]
  go_wp2
  go_ret
  exact ⟨rfl, rfl⟩
theorem indexByte_any (s : ByteArray) (c : Int) (w : World) :
    Calls Tryd.prog 81 #[.string s, .int .u8 c] w fun e w' => e = .returned (.int .i64 (Lib.indexByte s.data.toList c.toNat.toUInt8)) ∧ w = w' := by
  go_enter Tryd.func81, Tryd.ntmps81
  go_wp2_with (go_at_call 92; refine (sIndexByte_any _ _ _).mono ?_; rintro e w' ⟨rfl, rfl⟩)
  go_ret
  exact ⟨rfl, rfl⟩

theorem indexByte_dot : ∀ l : List UInt8, (Lib.indexByte l 46 = -1 ∧ trimL l = []) ∨ ∃ i : Nat, i < l.length ∧ Lib.indexByte l 46 = i ∧ trimL l = l.drop i
  | [] => .inl ⟨rfl, rfl⟩
  | c :: r => by
    have ih := indexByte_dot r
    unfold Lib.indexByte trimL
    by_cases hc : c = 46
    · subst hc
      exact .inr ⟨0, by simp, by simp, by simp⟩
    · have h1 : (c == 46) = false := by simp [hc]
      have h2 : (c != 46) = true := by simp [hc]
      rw [h1, List.dropWhile_cons, h2]
      rcases ih with ⟨e1, e2⟩ | ⟨i, hi, e1, e2⟩
      · left; simp [e1]; exact e2
      · right
        refine ⟨i + 1, by simp; omega, ?_, ?_⟩
        · rw [e1]; simp; try omega
        · simp; exact e2
theorem trimFirst_any (s : ByteArray) (_hs : s.size ≤ 2147483647) (w : World) :
    Calls Tryd.prog 69 #[.string s] w fun e w' => e = .returned (.string (ofBytes (trimL (bytes s)))) ∧ w = w' := by
  have hidx := indexByte_any s 46 w
  change Calls Tryd.prog 81 #[.string s, .int .u8 46] w (fun e w' => e = .returned (.int .i64 (Lib.indexByte (bytes s) 46)) ∧ w = w') at hidx
  rcases indexByte_dot (bytes s) with ⟨e1, e2⟩ | ⟨i, hi, e1, e2⟩
  · rw [e1] at hidx
    have E2 := Lib.hid e2
    clear e1 e2
    go_enter Tryd.func69, Tryd.ntmps69
    go_wp2_with (go_at_call 81; refine hidx.mono ?_; rintro e w' ⟨rfl, rfl⟩)
    go_ret
    exact ⟨ret_str (by rw [E2.out]; rfl), rfl⟩
  · rw [e1] at hidx
    have E2 : Hid (ofBytes (trimL (bytes s)) = s.extract i s.size) := by
      show _ = _
      rw [e2, extract_ofBytes, List.take_of_length_le (by rw [List.length_drop, bytes_length]; omega)]
    rw [bytes_length] at hi
    clear e1 e2
    go_enter Tryd.func69, Tryd.ntmps69
    go_wp2_with (go_at_call 81; refine hidx.mono ?_; rintro e w' ⟨rfl, rfl⟩)
    go_ret
    exact ⟨ret_str E2.out.symm, rfl⟩
end Go.Proofs.YtdinnpjplgkffaaDoor
