/-
  Walks: strings.IndexByte, trimFirstLabel (the name from its first dot on), impl.Trim. Texts of at most 2^31 bytes.
-/
import Derived.Test.YtdinnpjplgkffaaGreatDoorW3
import Derived.Lib.Bytealg
import Derived.Laws.Externs
namespace Go.Proofs.YtdinnpjplgkffaaGreatDoor
open Go.RowKit

/-- A name from its first dot on. -/
def trimL (l : List UInt8) : List UInt8 := l.dropWhile (fun c => c != 46)

set_option maxRecDepth 100000 in
theorem sIndexByte_any (s : ByteArray) (c : Int) (w : World) :
    Calls Tryz.prog 78 #[.string s, .int .u8 c] w fun e w' => e = .returned (.int .i64 (Lib.indexByte s.data.toList c.toNat.toUInt8)) ∧ w = w' := by
  go_enter Tryz.func78, Tryz.ntmps78
  go_wp2
  rw [run_callFunc_extern Tryz.func92 (by kernel_rfl) (by kernel_rfl) (by kernel_rfl) (e := Extern.BytealgIndexByte.indexByte) (by kernel_rfl), Lib.run_indexByteString]
  simp only [Result.andThen]
  rw [Oper.upon_value]
  go_wp2
  go_ret
  exact ⟨rfl, rfl⟩
theorem indexByte_any (s : ByteArray) (c : Int) (w : World) :
    Calls Tryz.prog 70 #[.string s, .int .u8 c] w fun e w' => e = .returned (.int .i64 (Lib.indexByte s.data.toList c.toNat.toUInt8)) ∧ w = w' := by
  go_enter Tryz.func70, Tryz.ntmps70
  go_wp2_with (go_at_call 78; refine (sIndexByte_any _ _ _).mono ?_; rintro e w' ⟨rfl, rfl⟩)
  go_ret
  exact ⟨rfl, rfl⟩

theorem indexByte_dot : ∀ l : List UInt8, (Lib.indexByte l 46 = -1 ∧ trimL l = []) ∨ ∃ i : Nat, i < l.length ∧ Lib.indexByte l 46 = i ∧ trimL l = l.drop i
  | [] => .inl ⟨rfl, rfl⟩
  | c :: r => by
    have ih := indexByte_dot r
    unfold Lib.indexByte trimL
    by_cases hc : c = 46
    · subst hc
      exact .inr ⟨0, by simp, by simp, by simp⟩
    · have h1 : (c == 46) = false := by simp [hc]
      have h2 : (c != 46) = true := by simp [hc]
      rw [h1, List.dropWhile_cons, h2]
      rcases ih with ⟨e1, e2⟩ | ⟨i, hi, e1, e2⟩
      · left; simp [e1]; exact e2
      · right
        refine ⟨i + 1, by simp; omega, ?_, ?_⟩
        · rw [e1]; simp; try omega
        · simp; exact e2
theorem trimFirst_any (s : ByteArray) (_hs : s.size ≤ 2147483647) (w : World) :
    Calls Tryz.prog 59 #[.string s] w fun e w' => e = .returned (.string (ofBytes (trimL (bytes s)))) ∧ w = w' := by
  have hidx := indexByte_any s 46 w
  change Calls Tryz.prog 70 #[.string s, .int .u8 46] w (fun e w' => e = .returned (.int .i64 (Lib.indexByte (bytes s) 46)) ∧ w = w') at hidx
  rcases indexByte_dot (bytes s) with ⟨e1, e2⟩ | ⟨i, hi, e1, e2⟩
  · rw [e1] at hidx
    have E2 := Lib.hid e2
    clear e1 e2
    go_enter Tryz.func59, Tryz.ntmps59
    go_wp2_with (go_at_call 70; refine hidx.mono ?_; rintro e w' ⟨rfl, rfl⟩)
    go_ret
    exact ⟨ret_str (by rw [E2.out]; rfl), rfl⟩
  · rw [e1] at hidx
    have E2 : Hid (ofBytes (trimL (bytes s)) = s.extract i s.size) := by
      show _ = _
      rw [e2, extract_ofBytes, List.take_of_length_le (by rw [List.length_drop, bytes_length]; omega)]
    rw [bytes_length] at hi
    clear e1 e2
    go_enter Tryz.func59, Tryz.ntmps59
    go_wp2_with (go_at_call 70; refine hidx.mono ?_; rintro e w' ⟨rfl, rfl⟩)
    go_ret
    exact ⟨ret_str E2.out.symm, rfl⟩
end Go.Proofs.YtdinnpjplgkffaaGreatDoor
