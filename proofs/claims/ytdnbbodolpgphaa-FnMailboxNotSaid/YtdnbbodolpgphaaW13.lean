/-
  Walks: zzIndex and zzSplit at a dot, strings.TrimSuffix of a dot, splitHostname, impl.Split, slices.Equal of texts. Texts of at most 2^30 bytes.
-/
import Derived.Test.YtdnbbodolpgphaaW12
namespace Go.Proofs.Ytdnbbodolpgphaa
open Go.RowKit

/-- append(nil, xs...) of texts in a row of the call's own: a copy. -/
theorem wpList_copy_strs {ops : Array Oper} {rest : List Oper} {o : Oper} {a : Act} {w : World} {Q : Exit → Act → World → Prop} (hgd : o.guard = none) (s x : Operand)
    (ho : o.op = .call { callee := .builtin .append, args := #[s, x], argTypes := #[24, 24] }) (hs : a.eval s = .slice none 0 0)
    (base0 base : Nat) (v : Value) (xs : List ByteArray) (hx : a.eval x = v) (hsrc : w.ownsRow base0 9 1 v xs.length (strs xs)) (hl : xs.length ≤ 2147483648) (hbase : base ≤ w.heap.size)
    (h : ∀ v' w', w'.ownsRow base 9 1 v' xs.length (strs xs) → Below w.heap.size w w' → wpList Try.prog ops Q rest (a.put o.dst v') w') : wpList Try.prog ops Q (o :: rest) a w := by
  have hmax : (2147483648 : Nat) ≤ maxLen := by unfold maxLen; omega
  obtain ⟨i0, hi, hz0, hz1, hz2⟩ := info_parts info_string
  obtain ⟨h1, h2⟩ := hsrc
  have hsrc : w.ownsRow base0 9 1 v xs.length (strs xs) := ⟨h1, h2⟩
  rcases h2 with ⟨rfl, h0⟩ | ⟨g, cap, cur, rfl, hg⟩
  · refine wpList_append_own_none hgd s x 24 ho base 9 i0 1 Try.underlying24 hi _ 0 [] hs (World.ownsRow_nil _ _ _ _) hx ?_
    have hn : xs = [] := List.eq_nil_of_length_eq_zero h0
    subst hn
    exact h _ _ (World.ownsRow_nil _ _ _ _) (Below.refl _ _)
  · refine wpList_append_own _ hgd s x 24 ho base 9 i0 _ 1 16 Try.underlying24 hi hz0 hz1 hz2 rfl (by decide) _ 0 [] hs (World.ownsRow_nil _ _ _ _) ⟨g, 0, none⟩ _ _ (strs xs) hx (by rw [strs_length]; omega) (hsrc.cells rfl) (strs_one _) (by omega) (by omega) hbase fun v' w' hown hgrow _ => ?_
    refine h v' w' (by simpa using hown) ((Below.refl _ _).grown hgrow (Nat.le_refl _) (fun k hk => by cases hk))

theorem extract_one {s : ByteArray} {k : Nat} (h : k < s.size) : (s.extract k (k + 1)).toList = [s[k]'h] := by
  rw [ByteArray.toList_eq]
  change bytes (s.extract k (k + 1)) = _
  rw [bytes_extract, drop_cons h]
  simp
/-- Where the first dot stands: -1 where there is none. -/
def FirstDot (l : List UInt8) (r : Int) : Prop := (r = -1 ∧ ∀ c ∈ l, c ≠ 46) ∨ ∃ a b, l = a ++ 46 :: b ∧ (∀ c ∈ a, c ≠ 46) ∧ r = (a.length : Int)
def FirstPost (l : List UInt8) (w : World) (e : Ending) (w' : World) : Prop := ∃ r : Int, FirstDot l r ∧ e = .returned (.int .i64 r) ∧ w = w'
set_option maxHeartbeats 1000000 in
theorem index_any (s : ByteArray) (hs : s.size ≤ 2147483647) (w : World) :
    Calls Try.prog 82 #[.string s, .string ⟨#[46]⟩] w (FirstPost (bytes s) w) := by
  go_enter Try.func82, Try.ntmps82
  go_wp2
  go_loopg [5] (s.size + 1) (fun kx i wr => w = wr ∧ ∃ k : Nat, k ≤ s.size ∧ s.size + 1 - k ≤ kx ∧ i = .int .i64 k ∧ Aside (∀ c ∈ (bytes s).take k, c ≠ 46))
  case atStart => exact ⟨rfl, 0, by omega, by omega, rfl, fun c hc => by simp at hc⟩
  case round =>
    obtain ⟨rfl, k, hk, hg, rfl, A⟩ := hrel
    by_cases hlt : k < s.size
    · have hd := drop_cons hlt
      have he := extract_one hlt
      by_cases hc : s[k]'hlt = 46
      · have F : Hid (FirstDot (bytes s) (k : Int)) := by
          refine .inr ⟨(bytes s).take k, (bytes s).drop (k + 1), ?_, A.out, ?_⟩
          · conv => lhs; rw [← List.take_append_drop k (bytes s), hd, hc]
          · rw [List.length_take, bytes_length]; omega
        have hb : ((s.extract k (k + 1)).toList == [46]) = true := by rw [he, hc]; rfl
        clear A hd he hc
        go_wp2
        go_ret
        exact ⟨_, F.out, rfl, rfl⟩
      · have hkl : k < (bytes s).length := by rw [bytes_length]; exact hlt
        have A2 : Aside (∀ c ∈ (bytes s).take (k + 1), c ≠ 46) := by
          show ∀ c ∈ _, _
          rw [List.take_succ_eq_append_getElem hkl, bytes_ix s k hlt hkl]
          intro c hcm
          rcases List.mem_append.1 hcm with h | h
          · exact A.out c h
          · simp at h; rw [h]; exact hc
        have hb : ((s.extract k (k + 1)).toList == [46]) = false := by rw [he]; simp [hc]
        clear A hd he hc
        go_wp2
        go_roundg (s.size + 1 - (k + 1))
        case measure => omega
        case rel => exact ⟨rfl, k + 1, by omega, by omega, by go_num, A2⟩
    · have F : Hid (FirstDot (bytes s) (-1)) := .inl ⟨rfl, by
        have := A.out
        rw [List.take_of_length_le (by rw [bytes_length]; omega)] at this
        exact this⟩
      clear A
      go_wp2
      go_ret
      exact ⟨_, F.out, rfl, rfl⟩

set_option maxHeartbeats 2000000 in
theorem zzSplit_any (s : ByteArray) (hs : s.size ≤ 1073741824) (w : World) :
    Calls Try.prog 76 #[.string s, .string ⟨#[46]⟩] w (LabPost w (bytes s)) := by
  have hmax : (2147483648 : Nat) ≤ maxLen := by unfold maxLen; omega
  obtain ⟨i0, hi, hz0, hz1, hz2⟩ := info_parts info_string
  go_enter Try.func76, Try.ntmps76
  go_wp2
  go_loopg [0, 5] (s.size + 1) (fun kx cu v wr => ∃ (d : ByteArray) (acc : List ByteArray), cu = .string d ∧ d.size + 1 ≤ kx ∧ acc.length + d.size ≤ s.size ∧ Aside (labelsB (bytes s) = acc ++ labelsB (bytes d)) ∧ wr.ownsRow w.heap.size 9 1 v acc.length (strs acc) ∧ Below w.heap.size w wr)
  case atStart => exact ⟨s, [], rfl, by omega, by simp, rfl, World.ownsRow_nil _ _ _ _, Below.refl _ _⟩
  case round =>
    obtain ⟨d, acc, rfl, hg, hacc, A, hown, hb⟩ := hrel
    have hsz := hb.size
    have HI := Lib.hid (fun W => index_any d (by omega) W)
    go_wp2_with fail
    refine (HI.out _).mono ?_
    rintro e w1 ⟨r, hr, rfl, rfl⟩
    rcases hr with ⟨rfl, hno⟩ | ⟨p, q, hpq, hp, rfl⟩
    · have hR : labelsB (bytes s) = acc ++ [d] := by
        rw [A.out]
        congr 1
        unfold labelsB
        rw [splitDot_noDot _ hno]
        simp [ofBytes_bytes]
      have HR := Lib.hid hR
      clear A hno hR HI
      go_wp2_with (at_builtin; refine wpList_append_own _ rfl _ _ 24 rfl w.heap.size 9 i0 _ 1 16 Try.underlying24 hi hz0 hz1 hz2 rfl (by decide) _ _ _ rfl (hown.alloc _) ⟨wr.heap.size, 0, none⟩ 1 1 [.string d] rfl rfl ?a1 ?a2 ?a3 ?a4 ?a5 ?_)
      case a1 =>
        intro j u hj
        match j, hj with
        | 0, hj => simp at hj; subst hj; simp [Addr.add]
      case a2 => intro u hu; simp at hu; subst hu; rfl
      case a3 => omega
      case a4 => omega
      case a5 => simp; omega
      intro v' w1 hown' hgrow _
      have hb1 : Below w.heap.size w w1 := (hb.alloc hsz _).grown hgrow (by simp; omega) (fun k hk => (hown.lt k hk).1)
      have hown2 := Lib.hid (own_snoc hown')
      clear hown' hgrow hown hb
      go_wp2
      go_ret
      exact ⟨v', rfl, by rw [HR.out]; exact hown2.out, hb1⟩
    · have hdl : d.size = p.length + 1 + q.length := by rw [← bytes_length, hpq]; simp; omega
      have hdl1 : p.length + 1 ≤ d.size := by omega
      obtain ⟨x, hx⟩ : ∃ x, d.extract 0 p.length = x := ⟨_, rfl⟩
      obtain ⟨y, hy⟩ : ∃ y, d.extract (p.length + 1) d.size = y := ⟨_, rfl⟩
      have hxb : bytes x = p := by rw [← hx, bytes_extract, hpq, List.drop_zero, Nat.sub_zero, List.take_left' rfl]
      have hyb : bytes y = q := by
        rw [← hy, bytes_extract, hpq, List.take_of_length_le (by rw [List.length_drop]; simp; omega), ← List.drop_drop, List.drop_left' rfl]; rfl
      have hys : y.size = q.length := by rw [← bytes_length, hyb]
      have A2 : Hid (labelsB (bytes s) = (acc ++ [x]) ++ labelsB (bytes y)) := by
        show _ = _
        rw [A.out, hpq, hyb, List.append_assoc]
        congr 1
        unfold labelsB
        rw [splitDot_at _ _ hp, ← hxb]
        simp [ofBytes_bytes]
      have hal : (acc ++ [x]).length + y.size ≤ s.size := by rw [hys]; simp; omega
      have HAL := Lib.hid hal
      have hyd : y.size + 1 ≤ d.size := by omega
      have hneg : decide (((p.length : Nat) : Int) < 0) = false := decide_eq_false (by omega)
      clear A hpq hp hxb hyb hys hal HI hdl
      go_wp2_with (at_builtin; refine wpList_append_own _ rfl _ _ 24 rfl w.heap.size 9 i0 _ 1 16 Try.underlying24 hi hz0 hz1 hz2 rfl (by decide) _ _ _ rfl (hown.alloc _) ⟨wr.heap.size, 0, none⟩ 1 1 [.string x] rfl rfl ?b1 ?b2 ?b3 ?b4 ?b5 ?_)
      case b1 =>
        intro j u hj
        match j, hj with
        | 0, hj => simp at hj; subst hj; simp [Addr.add]
      case b2 => intro u hu; simp at hu; subst hu; rfl
      case b3 => omega
      case b4 => omega
      case b5 => simp; omega
      intro v' w1 hown' hgrow _
      have hb1 : Below w.heap.size w w1 := (hb.alloc hsz _).grown hgrow (by simp; omega) (fun k hk => (hown.lt k hk).1)
      have hown2 := Lib.hid (own_snoc hown')
      clear hown' hgrow hown hb
      go_wp2
      go_roundg (y.size + 1)
      case measure => omega
      case rel => exact ⟨y, acc ++ [x], rfl, by omega, HAL.out, A2.out, hown2.out, hb1⟩

/-- A text without a dot at its end. -/
def trim46 (l : List UInt8) : List UInt8 := if l.getLast? = some 46 then l.dropLast else l
set_option maxHeartbeats 1000000 in
theorem trimDot0_any (s : ByteArray) (hs : s.size ≤ 2147483647) (w : World) :
    Calls Try.prog 83 #[.string s, .string ⟨#[46]⟩] w fun e w' => e = .returned (.string (ofBytes (trim46 (bytes s)))) ∧ w = w' := by
  by_cases h0 : s.size = 0
  · have hn : bytes s = [] := List.eq_nil_of_length_eq_zero (by rw [bytes_length]; exact h0)
    have e : Hid (ofBytes (trim46 (bytes s)) = s) := by
      show _ = _
      rw [hn]; exact bytes_inj (by rw [bytes_ofBytes, hn]; rfl)
    have h1 : ¬ 1 ≤ s.size := by omega
    clear hn h0
    go_enter Try.func83, Try.ntmps83
    go_wp2
    go_ret
    exact ⟨ret_str e.out.symm, rfl⟩
  · have p0 : s.size - 1 < s.size := by omega
    have p1 : 1 ≤ s.size := by omega
    have hl := bytes_last s p0
    have hx := extract_one p0
    rw [show s.size - 1 + 1 = s.size by omega] at hx
    by_cases hc : s[s.size - 1]'p0 = 46
    · have e : Hid (ofBytes (trim46 (bytes s)) = s.extract 0 (s.size - 1)) := by
        show _ = _
        unfold trim46
        rw [hl, hc, if_pos rfl]
        refine bytes_inj ?_
        rw [bytes_ofBytes, bytes_extract, List.dropLast_eq_take, bytes_length]; rfl
      have hb : ((s.extract (s.size - 1) s.size).toList == [46]) = true := by rw [hx, hc]; rfl
      clear hl hx hc h0
      go_enter Try.func83, Try.ntmps83
      go_wp2
      go_ret
      exact ⟨ret_str e.out.symm, rfl⟩
    · have e : Hid (ofBytes (trim46 (bytes s)) = s) := by
        show _ = _
        unfold trim46
        rw [hl, if_neg (by simpa using hc), ofBytes_bytes]
      have hb : ((s.extract (s.size - 1) s.size).toList == [46]) = false := by rw [hx]; simp [hc]
      clear hl hx hc h0
      go_enter Try.func83, Try.ntmps83
      go_wp2
      go_ret
      exact ⟨ret_str e.out.symm, rfl⟩
theorem trimDot_any (s : ByteArray) (hs : s.size ≤ 2147483647) (w : World) :
    Calls Try.prog 77 #[.string s, .string ⟨#[46]⟩] w fun e w' => e = .returned (.string (ofBytes (trim46 (bytes s)))) ∧ w = w' := by
  go_enter Try.func77, Try.ntmps77
  go_wp2_with (go_at_call 83; refine (trimDot0_any s hs _).mono ?_; rintro e w' ⟨rfl, rfl⟩)
  go_ret
  exact ⟨rfl, rfl⟩
end Go.Proofs.Ytdnbbodolpgphaa
