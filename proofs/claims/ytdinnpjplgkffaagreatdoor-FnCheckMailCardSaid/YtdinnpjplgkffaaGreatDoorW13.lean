/-
  Walks: zzIndex and zzSplit at a dot, strings.TrimSuffix of a dot, splitHostname, impl.Split, slices.Equal of texts. Texts of at most 2^30 bytes.
-/
import Derived.Test.YtdinnpjplgkffaaGreatDoorW12
namespace Go.Proofs.YtdinnpjplgkffaaGreatDoor
open Go.RowKit

/-- append(nil, xs...) of texts in a row of the call's own: a copy. -/
theorem wpList_copy_strs {ops : Array Oper} {rest : List Oper} {o : Oper} {a : Act} {w : World} {Q : Exit → Act → World → Prop} (hgd : o.guard = none) (s x : Operand)
    (ho : o.op = .call { callee := .builtin .append, args := #[s, x], argTypes := #[22, 22] }) (hs : a.eval s = .slice none 0 0)
    (base0 base : Nat) (v : Value) (xs : List ByteArray) (hx : a.eval x = v) (hsrc : w.ownsRow base0 9 1 v xs.length (strs xs)) (hl : xs.length ≤ 2147483648) (hbase : base ≤ w.heap.size)
    (h : ∀ v' w', w'.ownsRow base 9 1 v' xs.length (strs xs) → Below w.heap.size w w' → wpList Tryz.prog ops Q rest (a.put o.dst v') w') : wpList Tryz.prog ops Q (o :: rest) a w := by
  have hmax : (2147483648 : Nat) ≤ maxLen := by unfold maxLen; omega
  obtain ⟨i0, hi, hz0, hz1, hz2⟩ := info_parts info_string
  obtain ⟨h1, h2⟩ := hsrc
  have hsrc : w.ownsRow base0 9 1 v xs.length (strs xs) := ⟨h1, h2⟩
  rcases h2 with ⟨rfl, h0⟩ | ⟨g, cap, cur, rfl, hg⟩
  · refine wpList_append_own_none hgd s x 22 ho base 9 i0 1 Tryz.underlying22 hi _ 0 [] hs (World.ownsRow_nil _ _ _ _) hx ?_
    have hn : xs = [] := List.eq_nil_of_length_eq_zero h0
    subst hn
    exact h _ _ (World.ownsRow_nil _ _ _ _) (Below.refl _ _)
  · refine wpList_append_own _ hgd s x 22 ho base 9 i0 _ 1 16 Tryz.underlying22 hi hz0 hz1 hz2 rfl (by decide) _ 0 [] hs (World.ownsRow_nil _ _ _ _) ⟨g, 0, none⟩ _ _ (strs xs) hx (by rw [strs_length]; omega) (hsrc.cells rfl) (strs_one _) (by omega) (by omega) hbase fun v' w' hown hgrow _ => ?_
    refine h v' w' (by simpa using hown) ((Below.refl _ _).grown hgrow (Nat.le_refl _) (fun k hk => by cases hk))

theorem extract_one {s : ByteArray} {k : Nat} (h : k < s.size) : (s.extract k (k + 1)).toList = [s[k]'h] := by
  rw [ByteArray.toList_eq]
  change bytes (s.extract k (k + 1)) = _
  rw [bytes_extract, drop_cons h]
  simp
/-- Where the first dot stands: -1 where there is none. -/
def FirstDot (l : List UInt8) (r : Int) : Prop := (r = -1 ∧ ∀ c ∈ l, c ≠ 46) ∨ ∃ a b, l = a ++ 46 :: b ∧ (∀ c ∈ a, c ≠ 46) ∧ r = (a.length : Int)
def FirstPost (l : List UInt8) (w : World) (e : Ending) (w' : World) : Prop := ∃ r : Int, FirstDot l r ∧ e = .returned (.int .i64 r) ∧ w = w'
set_option maxHeartbeats 1000000 in
theorem index_any (s : ByteArray) (hs : s.size ≤ 2147483647) (w : World) :
    Calls Tryz.prog 60 #[.string s, .string ⟨#[46]⟩] w (FirstPost (bytes s) w) := by
  go_enter Tryz.func60, Tryz.ntmps60
  go_wp2
  go_loopg [5] (s.size + 1) (fun kx i wr => w = wr ∧ ∃ k : Nat, k ≤ s.size ∧ s.size + 1 - k ≤ kx ∧ i = .int .i64 k ∧ Aside (∀ c ∈ (bytes s).take k, c ≠ 46))
  case atStart => exact ⟨rfl, 0, by omega, by omega, rfl, fun c hc => by simp at hc⟩
  case round =>
    obtain ⟨rfl, k, hk, hg, rfl, A⟩ := hrel
    by_cases hlt : k < s.size
    · have hd := drop_cons hlt
      have he := extract_one hlt
      by_cases hc : s[k]'hlt = 46
      · have F : Hid (FirstDot (bytes s) (k : Int)) := by
          refine .inr ⟨(bytes s).take k, (bytes s).drop (k + 1), ?_, A.out, ?_⟩
          · conv => lhs; rw [← List.take_append_drop k (bytes s), hd, hc]
          · rw [List.length_take, bytes_length]; omega
        have hb : ((s.extract k (k + 1)).toList == [46]) = true := by rw [he, hc]; rfl
        clear A hd he hc
        go_wp2
        go_ret
        exact ⟨_, F.out, rfl, rfl⟩
      · have hkl : k < (bytes s).length := by rw [bytes_length]; exact hlt
        have A2 : Aside (∀ c ∈ (bytes s).take (k + 1), c ≠ 46) := by
          show ∀ c ∈ _, _
          rw [List.take_succ_eq_append_getElem hkl, bytes_ix s k hlt hkl]
          intro c hcm
          rcases List.mem_append.1 hcm with h | h
          · exact A.out c h
          · simp at h; rw [h]; exact hc
        have hb : ((s.extract k (k + 1)).toList == [46]) = false := by rw [he]; simp [hc]
        clear A hd he hc
        go_wp2
        go_roundg (s.size + 1 - (k + 1))
        case measure => omega
        case rel => exact ⟨rfl, k + 1, by omega, by omega, by go_num, A2⟩
    · have F : Hid (FirstDot (bytes s) (-1)) := .inl ⟨rfl, by
        have := A.out
        rw [List.take_of_length_le (by rw [bytes_length]; omega)] at this
        exact this⟩
      clear A
      go_wp2
      go_ret
      exact ⟨_, F.out, rfl, rfl⟩

/-- A text without a dot at its end. -/
def trim46 (l : List UInt8) : List UInt8 := if l.getLast? = some 46 then l.dropLast else l
end Go.Proofs.YtdinnpjplgkffaaGreatDoor
