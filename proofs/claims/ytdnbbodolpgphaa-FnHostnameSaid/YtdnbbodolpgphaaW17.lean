/-
  Walks: validHostname, impl.Hostname. Texts of at most 2^30 bytes.
-/
import Derived.Test.YtdnbbodolpgphaaW14
namespace Go.Proofs.Ytdnbbodolpgphaa
open Go.RowKit

/-- Which bytes stand where in a label of a host's name. -/
def hostB (n j : Nat) : Bool := (decide (97 ≤ n) && decide (n ≤ 122)) || (decide (48 ≤ n) && decide (n ≤ 57)) || (decide (65 ≤ n) && decide (n ≤ 90)) || (n == 45 && j != 0) || n == 95
/-- A part of a host's name, or of a pattern. -/
def partP (pat : Bool) (i : Nat) (x : ByteArray) : Prop := x.size ≠ 0 ∧ ((pat = true ∧ i = 0 ∧ x.toList = [42]) ∨ ∀ j (h : j < x.size), hostB (x[j]).toNat j = true)
def hostQ (pat : Bool) (ps : List ByteArray) : Prop := ∀ i (h : i < ps.length), partP pat i (ps[i])
def hostP (pat : Bool) (l : List UInt8) : Prop := l ≠ [] ∧ l ≠ [42] ∧ hostQ pat (labelsB l)
theorem no_of {b : Bool} {P : Prop} (hb : b = true ↔ P) (h : ¬ P) : b = false := by
  cases b
  · rfl
  · exact absurd (hb.1 rfl) h
theorem host_cases (n j : Nat) (h : hostB n j = true) :
    (97 ≤ n ∧ n ≤ 122) ∨ (48 ≤ n ∧ n ≤ 57) ∨ (65 ≤ n ∧ n ≤ 90) ∨ (n < 48 ∧ ((n : Int) == 45) = true ∧ ((j : Int) != 0) = true) ∨ (91 ≤ n ∧ n < 97 ∧ ((n : Int) == 45) = false ∧ ((n : Int) == 95) = true) := by
  unfold hostB at h
  simp at h
  simp
  omega
theorem host_not (n j : Nat) (h : n < 128 → hostB n j = false) :
    (122 < n ∧ ((n : Int) == 45) = false ∧ ((n : Int) == 95) = false) ∨ (91 ≤ n ∧ n < 97 ∧ ((n : Int) == 45) = false ∧ ((n : Int) == 95) = false) ∨ (58 ≤ n ∧ n < 65 ∧ ((n : Int) == 45) = false ∧ ((n : Int) == 95) = false) ∨ (n < 48 ∧ ((n : Int) == 45) = false ∧ ((n : Int) == 95) = false) ∨ (n < 48 ∧ ((n : Int) == 45) = true ∧ ((n : Int) == 95) = false ∧ ((j : Int) != 0) = false) := by
  by_cases h128 : n < 128
  · have h := h h128
    unfold hostB at h
    simp at h
    simp
    omega
  · left
    simp
    omega


set_option maxHeartbeats 8000000 in
theorem validHost_any (s : ByteArray) (pat : Bool) (hs : s.size ≤ 1073741824) (w : World) (b : Bool) (hb : b = true ↔ hostP pat (if pat then bytes s else trim46 (bytes s))) :
    Calls Try.prog 70 #[.string s, .bool pat] w (Ret (.bool b) w) := by
  have HT := Lib.hid (fun W => trimDot_any s (by omega) W)
  cases pat
  · have hx : (ofBytes (trim46 (bytes s))).size ≤ 1073741824 := by
      rw [size_ofBytes]; have := trim46_length (bytes s); rw [bytes_length] at this; omega
    have HB : Hid (b = true ↔ hostP false (bytes (ofBytes (trim46 (bytes s))))) := by
      show _ ↔ _
      rw [bytes_ofBytes]; exact hb
    clear hb
    generalize ofBytes (trim46 (bytes s)) = x at *
    by_cases h0 : (x).size = 0
    · have F := Lib.hid (no_of HB.out fun h => h.1 (List.eq_nil_of_length_eq_zero (by rw [bytes_length]; exact h0)))
      have h0' : (((x).size : Int) == 0) = true := by simp [h0]
      clear h0 HB
      go_enter Try.func70, Try.ntmps70
      go_wp2_with (first | ((with_reducible refine (HT.out _).mono ?_); rintro e w1 ⟨rfl, rfl⟩))
      go_ret
      exact ⟨ret_bool F.out.symm, Below.refl _ _⟩
    have h0' : (((x).size : Int) == 0) = false := beq_eq_false_iff_ne.2 (by omega)
    have hne : bytes (x) ≠ [] := fun e => h0 (by rw [← bytes_length, e]; rfl)
    by_cases h1 : (x).toList = [42]
    · have F := Lib.hid (no_of HB.out fun h => h.2.1 (by rw [ByteArray.toList_eq] at h1; exact h1))
      have h1' : ((x).toList == [42]) = true := by rw [h1]; rfl
      clear h1 h0 hne HB
      go_enter Try.func70, Try.ntmps70
      go_wp2_with (first | ((with_reducible refine (HT.out _).mono ?_); rintro e w1 ⟨rfl, rfl⟩))
      go_ret
      exact ⟨ret_bool F.out.symm, Below.refl _ _⟩
    have h1' : ((x).toList == [42]) = false := by simp only [beq_eq_false_iff_ne, ne_eq]; exact h1
    have HQ : Hid (b = true ↔ hostQ false (labelsB (bytes (x)))) := by
      have h1'' : bytes (x) ≠ [42] := fun e => h1 (by rw [ByteArray.toList_eq]; exact e)
      exact ⟨fun h => (HB.out.1 h).2.2, fun h => HB.out.2 ⟨hne, h1'', h⟩⟩
    have HS := Lib.hid (fun W => zzSplit_any (x) hx W)
    have hlen : (labelsB (bytes (x))).length ≤ 2147483648 := by
      have := labelsB_le (bytes (x))
      rw [bytes_length] at this
      omega
    clear h1 h0 hne HB
    go_enter Try.func70, Try.ntmps70
    go_wp2_with (first | ((with_reducible refine (HT.out _).mono ?_); rintro e w1 ⟨rfl, rfl⟩) | fail)
    refine (HS.out _).mono ?_
    rintro e w2 ⟨v, rfl, hown, hb2⟩
    obtain ⟨A1, c1, rfl, -, -, hr, -⟩ := Rd.own hown
    have HR := Lib.hid hr
    have HW := Lib.hid hb2
    clear hown hr HS hb2 HT
    generalize labelsB (bytes (x)) = ps at *
    go_wp2
    go_loopg [21] ps.length (fun kx i wr => ∃ k : Nat, k ≤ ps.length ∧ ps.length - k ≤ kx ∧ i = .int .i64 k ∧ Aside (∀ j (h : j < ps.length), j < k → partP false j ps[j]) ∧ Below w2.heap.size w2 wr)
    case atStart => exact ⟨0, by omega, by omega, rfl, fun j h h' => by omega, Below.refl _ _⟩
    case round =>
      obtain ⟨k, hk, hg, rfl, Q, hb⟩ := hrel
      have HW2 := Lib.hid (Below.next HW.out hb)
      by_cases hlt : k < ps.length
      · obtain ⟨ad1, rfl, h1l, hc1⟩ := (HR.out.below hb) k _ (strs_get hlt)
        have Q2 : Aside (partP false k ps[k] → ∀ j (h : j < ps.length), j < k + 1 → partP false j ps[j]) := fun hx j h hj => by
          by_cases e : j < k
          · exact Q.out j h e
          · have : j = k := by omega
            subst this; exact hx
        have N2 : Aside (¬ partP false k ps[k] → b = false) := fun hn => no_of HQ.out fun h => hn (h k hlt)
        clear Q
        generalize ps[k] = y at *
        by_cases hy0 : y.size = 0
        · have F := Lib.hid (N2.out fun h => h.1 hy0)
          have he : (y.toList == []) = true := by
            have : bytes y = [] := List.eq_nil_of_length_eq_zero (by rw [bytes_length]; exact hy0)
            rw [ByteArray.toList_eq]
            change (bytes y == []) = true
            rw [this]; rfl
          clear hy0 Q2 N2
          go_wp2
          go_ret
          exact ⟨ret_bool F.out.symm, HW2.out⟩
        have he : (y.toList == []) = false := by
          simp only [beq_eq_false_iff_ne, ne_eq]
          intro e
          apply hy0
          rw [ByteArray.toList_eq] at e
          rw [← bytes_length]
          change y.data.toList.length = 0
          rw [e]; rfl
        by_cases hstar : false = true ∧ k = 0 ∧ y.toList = [42]
        · first
          | exact absurd hstar.1 Bool.false_ne_true
          | (have Q3 := Lib.hid (Q2.out ⟨hy0, .inl hstar⟩)
             have hst : (y.toList == [42]) = true := by rw [hstar.2.2]; rfl
             have hk0 : ((k : Int) == 0) = true := by rw [hstar.2.1]; rfl
             clear Q2 N2 hy0 hstar
             go_wp2
             go_roundg (ps.length - (k + 1))
             case measure => omega
             case rel => exact ⟨k + 1, by omega, by omega, by go_num, Q3.out, hb⟩)
        have hcs : (false = true ∧ ((k : Int) == 0) = true ∧ (y.toList == [42]) = false) ∨ (false = true ∧ ((k : Int) == 0) = false) ∨ false = false := by
          by_cases hp : false = true
          · by_cases hk0 : k = 0
            · left
              refine ⟨hp, by rw [hk0]; rfl, ?_⟩
              simp only [beq_eq_false_iff_ne, ne_eq]
              exact fun h => hstar ⟨hp, hk0, h⟩
            · exact .inr (.inl ⟨hp, beq_eq_false_iff_ne.2 (by omega)⟩)
          · exact .inr (.inr (Bool.eq_false_iff.2 hp))
        have Q3 : Aside ((∀ j (h : j < y.size), hostB (y[j]'h).toNat j = true) → ∀ j (h : j < ps.length), j < k + 1 → partP false j ps[j]) := fun h => Q2.out ⟨hy0, .inr h⟩
        have N3 : Aside ((¬ ∀ j (h : j < y.size), hostB (y[j]'h).toNat j = true) → b = false) := fun h => N2.out fun hp => by
          rcases hp.2 with h' | h'
          · exact hstar h'
          · exact h h'
        clear Q2 N2 hstar hy0
        rcases hcs with ⟨hpt, hk0, hst⟩ | ⟨hpt, hk0⟩ | hpt
        all_goals
          first
          | (exfalso; clear hb; cases hpt; done)
          | (try clear hpt
             go_wp2
             obtain ⟨wi, rfl⟩ : ∃ wi : World, wi = wr := ⟨_, rfl⟩
             have HBW := Lib.hid hb
             clear hb
             have J0 : Aside (∀ j (h : j < y.size), j < 0 → hostB (y[j]'h).toNat j = true) := fun j h h' => by omega
             go_loopg [7] y.size (fun ky _ wj => ∃ pos : Nat, y.size - pos ≤ ky ∧ pos ≤ y.size ∧ wj = wi.iter y pos ∧ Aside (∀ j (h : j < y.size), j < pos → hostB (y[j]'h).toNat j = true))
             case atStart => exact ⟨0, by omega, by omega, rfl, J0⟩
             case round =>
               clear J0
               obtain ⟨pos, hgp, hpl, rfl, J⟩ := hrel
               by_cases hpos2 : pos < y.size
               · have hnext := fun ty => run_next_any (P := Try.prog) wi y pos ty hpos2
                 by_cases hv : (y[pos]'hpos2).toNat < 128 ∧ hostB (y[pos]'hpos2).toNat pos = true
                 · rw [decode_ascii y pos hpos2 hv.1] at hnext
                   have J2 : Aside (∀ j (h : j < y.size), j < pos + 1 → hostB (y[j]'h).toNat j = true) := fun j h hj => by
                     by_cases e : j < pos
                     · exact J.out j h e
                     · have : j = pos := by omega
                       subst this; exact hv.2
                   have hc := host_cases _ _ hv.2
                   clear J hv
                   generalize (y[pos]'hpos2).toNat = r at *
                   rcases hc with ⟨h1, h2⟩ | ⟨h1, h2⟩ | ⟨h1, h2⟩ | ⟨h1, h2, h3⟩ | ⟨h1, h2, h3, h4⟩
                   all_goals
                     go_wp2
                     go_roundg (y.size - (pos + 1))
                     case measure => omega
                     case rel => exact ⟨pos + 1, by omega, by omega, rfl, J2⟩
                 · have F := Lib.hid (N3.out fun h => hv ⟨by
                     have := h pos hpos2
                     unfold hostB at this
                     simp at this
                     omega, h pos hpos2⟩)
                   have hle := decode_le y pos
                   have hr := host_not (Utf8.decode y pos).1 pos (by
                     intro h128
                     by_cases hb128 : (y[pos]'hpos2).toNat < 128
                     · rw [decode_ascii y pos hpos2 hb128]
                       simpa using fun h => hv ⟨hb128, h⟩
                     · have := (decode_high y pos hpos2 (by omega)).1
                       omega)
                   clear hv J Q3 N3
                   generalize (Utf8.decode y pos).1 = r at *
                   generalize (Utf8.decode y pos).2 = m at *
                   rcases hr with ⟨h1, h2, h3⟩ | ⟨h1, h4, h2, h3⟩ | ⟨h1, h4, h2, h3⟩ | ⟨h1, h2, h3⟩ | ⟨h1, h2, h3, h4⟩
                   all_goals
                     go_wp2
                     go_ret
                     exact ⟨ret_bool F.out.symm, (HW2.out).alloc HW2.out.size _⟩
               · have hnext := fun ty => run_next_end (P := Try.prog) wi y pos ty hpos2
                 have Q4 := Lib.hid (Q3.out fun j hj => J.out j hj (by omega))
                 have hb3 := Lib.hid (Below.alloc HBW.out HBW.out.size (.stringIter y pos))
                 clear J Q3 N3
                 go_wp2
                 go_roundg (ps.length - (k + 1))
                 case measure => omega
                 case rel => exact ⟨k + 1, by omega, by omega, by go_num, Q4.out, hb3.out⟩)
      · have F := Lib.hid (HQ.out.2 fun i h => Q.out i h (by omega))
        clear Q
        go_wp2
        go_ret
        exact ⟨ret_bool F.out.symm, HW2.out⟩
  · have hx := hs
    have HB : Hid (b = true ↔ hostP true (bytes s)) := hb
    clear hb
    by_cases h0 : (s).size = 0
    · have F := Lib.hid (no_of HB.out fun h => h.1 (List.eq_nil_of_length_eq_zero (by rw [bytes_length]; exact h0)))
      have h0' : (((s).size : Int) == 0) = true := by simp [h0]
      clear h0 HB
      go_enter Try.func70, Try.ntmps70
      go_wp2_with (first | ((with_reducible refine (HT.out _).mono ?_); rintro e w1 ⟨rfl, rfl⟩))
      go_ret
      exact ⟨ret_bool F.out.symm, Below.refl _ _⟩
    have h0' : (((s).size : Int) == 0) = false := beq_eq_false_iff_ne.2 (by omega)
    have hne : bytes (s) ≠ [] := fun e => h0 (by rw [← bytes_length, e]; rfl)
    by_cases h1 : (s).toList = [42]
    · have F := Lib.hid (no_of HB.out fun h => h.2.1 (by rw [ByteArray.toList_eq] at h1; exact h1))
      have h1' : ((s).toList == [42]) = true := by rw [h1]; rfl
      clear h1 h0 hne HB
      go_enter Try.func70, Try.ntmps70
      go_wp2_with (first | ((with_reducible refine (HT.out _).mono ?_); rintro e w1 ⟨rfl, rfl⟩))
      go_ret
      exact ⟨ret_bool F.out.symm, Below.refl _ _⟩
    have h1' : ((s).toList == [42]) = false := by simp only [beq_eq_false_iff_ne, ne_eq]; exact h1
    have HQ : Hid (b = true ↔ hostQ true (labelsB (bytes (s)))) := by
      have h1'' : bytes (s) ≠ [42] := fun e => h1 (by rw [ByteArray.toList_eq]; exact e)
      exact ⟨fun h => (HB.out.1 h).2.2, fun h => HB.out.2 ⟨hne, h1'', h⟩⟩
    have HS := Lib.hid (fun W => zzSplit_any (s) hx W)
    have hlen : (labelsB (bytes (s))).length ≤ 2147483648 := by
      have := labelsB_le (bytes (s))
      rw [bytes_length] at this
      omega
    clear h1 h0 hne HB
    go_enter Try.func70, Try.ntmps70
    go_wp2_with (first | ((with_reducible refine (HT.out _).mono ?_); rintro e w1 ⟨rfl, rfl⟩) | fail)
    refine (HS.out _).mono ?_
    rintro e w2 ⟨v, rfl, hown, hb2⟩
    obtain ⟨A1, c1, rfl, -, -, hr, -⟩ := Rd.own hown
    have HR := Lib.hid hr
    have HW := Lib.hid hb2
    clear hown hr HS hb2 HT
    generalize labelsB (bytes (s)) = ps at *
    go_wp2
    go_loopg [21] ps.length (fun kx i wr => ∃ k : Nat, k ≤ ps.length ∧ ps.length - k ≤ kx ∧ i = .int .i64 k ∧ Aside (∀ j (h : j < ps.length), j < k → partP true j ps[j]) ∧ Below w2.heap.size w2 wr)
    case atStart => exact ⟨0, by omega, by omega, rfl, fun j h h' => by omega, Below.refl _ _⟩
    case round =>
      obtain ⟨k, hk, hg, rfl, Q, hb⟩ := hrel
      have HW2 := Lib.hid (Below.next HW.out hb)
      by_cases hlt : k < ps.length
      · obtain ⟨ad1, rfl, h1l, hc1⟩ := (HR.out.below hb) k _ (strs_get hlt)
        have Q2 : Aside (partP true k ps[k] → ∀ j (h : j < ps.length), j < k + 1 → partP true j ps[j]) := fun hx j h hj => by
          by_cases e : j < k
          · exact Q.out j h e
          · have : j = k := by omega
            subst this; exact hx
        have N2 : Aside (¬ partP true k ps[k] → b = false) := fun hn => no_of HQ.out fun h => hn (h k hlt)
        clear Q
        generalize ps[k] = y at *
        by_cases hy0 : y.size = 0
        · have F := Lib.hid (N2.out fun h => h.1 hy0)
          have he : (y.toList == []) = true := by
            have : bytes y = [] := List.eq_nil_of_length_eq_zero (by rw [bytes_length]; exact hy0)
            rw [ByteArray.toList_eq]
            change (bytes y == []) = true
            rw [this]; rfl
          clear hy0 Q2 N2
          go_wp2
          go_ret
          exact ⟨ret_bool F.out.symm, HW2.out⟩
        have he : (y.toList == []) = false := by
          simp only [beq_eq_false_iff_ne, ne_eq]
          intro e
          apply hy0
          rw [ByteArray.toList_eq] at e
          rw [← bytes_length]
          change y.data.toList.length = 0
          rw [e]; rfl
        by_cases hstar : true = true ∧ k = 0 ∧ y.toList = [42]
        · first
          | exact absurd hstar.1 Bool.false_ne_true
          | (have Q3 := Lib.hid (Q2.out ⟨hy0, .inl hstar⟩)
             have hst : (y.toList == [42]) = true := by rw [hstar.2.2]; rfl
             have hk0 : ((k : Int) == 0) = true := by rw [hstar.2.1]; rfl
             clear Q2 N2 hy0 hstar
             go_wp2
             go_roundg (ps.length - (k + 1))
             case measure => omega
             case rel => exact ⟨k + 1, by omega, by omega, by go_num, Q3.out, hb⟩)
        have hcs : (true = true ∧ ((k : Int) == 0) = true ∧ (y.toList == [42]) = false) ∨ (true = true ∧ ((k : Int) == 0) = false) ∨ true = false := by
          by_cases hp : true = true
          · by_cases hk0 : k = 0
            · left
              refine ⟨hp, by rw [hk0]; rfl, ?_⟩
              simp only [beq_eq_false_iff_ne, ne_eq]
              exact fun h => hstar ⟨hp, hk0, h⟩
            · exact .inr (.inl ⟨hp, beq_eq_false_iff_ne.2 (by omega)⟩)
          · exact .inr (.inr (Bool.eq_false_iff.2 hp))
        have Q3 : Aside ((∀ j (h : j < y.size), hostB (y[j]'h).toNat j = true) → ∀ j (h : j < ps.length), j < k + 1 → partP true j ps[j]) := fun h => Q2.out ⟨hy0, .inr h⟩
        have N3 : Aside ((¬ ∀ j (h : j < y.size), hostB (y[j]'h).toNat j = true) → b = false) := fun h => N2.out fun hp => by
          rcases hp.2 with h' | h'
          · exact hstar h'
          · exact h h'
        clear Q2 N2 hstar hy0
        rcases hcs with ⟨hpt, hk0, hst⟩ | ⟨hpt, hk0⟩ | hpt
        all_goals
          first
          | (exfalso; clear hb; cases hpt; done)
          | (try clear hpt
             go_wp2
             obtain ⟨wi, rfl⟩ : ∃ wi : World, wi = wr := ⟨_, rfl⟩
             have HBW := Lib.hid hb
             clear hb
             have J0 : Aside (∀ j (h : j < y.size), j < 0 → hostB (y[j]'h).toNat j = true) := fun j h h' => by omega
             go_loopg [7] y.size (fun ky _ wj => ∃ pos : Nat, y.size - pos ≤ ky ∧ pos ≤ y.size ∧ wj = wi.iter y pos ∧ Aside (∀ j (h : j < y.size), j < pos → hostB (y[j]'h).toNat j = true))
             case atStart => exact ⟨0, by omega, by omega, rfl, J0⟩
             case round =>
               clear J0
               obtain ⟨pos, hgp, hpl, rfl, J⟩ := hrel
               by_cases hpos2 : pos < y.size
               · have hnext := fun ty => run_next_any (P := Try.prog) wi y pos ty hpos2
                 by_cases hv : (y[pos]'hpos2).toNat < 128 ∧ hostB (y[pos]'hpos2).toNat pos = true
                 · rw [decode_ascii y pos hpos2 hv.1] at hnext
                   have J2 : Aside (∀ j (h : j < y.size), j < pos + 1 → hostB (y[j]'h).toNat j = true) := fun j h hj => by
                     by_cases e : j < pos
                     · exact J.out j h e
                     · have : j = pos := by omega
                       subst this; exact hv.2
                   have hc := host_cases _ _ hv.2
                   clear J hv
                   generalize (y[pos]'hpos2).toNat = r at *
                   rcases hc with ⟨h1, h2⟩ | ⟨h1, h2⟩ | ⟨h1, h2⟩ | ⟨h1, h2, h3⟩ | ⟨h1, h2, h3, h4⟩
                   all_goals
                     go_wp2
                     go_roundg (y.size - (pos + 1))
                     case measure => omega
                     case rel => exact ⟨pos + 1, by omega, by omega, rfl, J2⟩
                 · have F := Lib.hid (N3.out fun h => hv ⟨by
                     have := h pos hpos2
                     unfold hostB at this
                     simp at this
                     omega, h pos hpos2⟩)
                   have hle := decode_le y pos
                   have hr := host_not (Utf8.decode y pos).1 pos (by
                     intro h128
                     by_cases hb128 : (y[pos]'hpos2).toNat < 128
                     · rw [decode_ascii y pos hpos2 hb128]
                       simpa using fun h => hv ⟨hb128, h⟩
                     · have := (decode_high y pos hpos2 (by omega)).1
                       omega)
                   clear hv J Q3 N3
                   generalize (Utf8.decode y pos).1 = r at *
                   generalize (Utf8.decode y pos).2 = m at *
                   rcases hr with ⟨h1, h2, h3⟩ | ⟨h1, h4, h2, h3⟩ | ⟨h1, h4, h2, h3⟩ | ⟨h1, h2, h3⟩ | ⟨h1, h2, h3, h4⟩
                   all_goals
                     go_wp2
                     go_ret
                     exact ⟨ret_bool F.out.symm, (HW2.out).alloc HW2.out.size _⟩
               · have hnext := fun ty => run_next_end (P := Try.prog) wi y pos ty hpos2
                 have Q4 := Lib.hid (Q3.out fun j hj => J.out j hj (by omega))
                 have hb3 := Lib.hid (Below.alloc HBW.out HBW.out.size (.stringIter y pos))
                 clear J Q3 N3
                 go_wp2
                 go_roundg (ps.length - (k + 1))
                 case measure => omega
                 case rel => exact ⟨k + 1, by omega, by omega, by go_num, Q4.out, hb3.out⟩)
      · have F := Lib.hid (HQ.out.2 fun i h => Q.out i h (by omega))
        clear Q
        go_wp2
        go_ret
        exact ⟨ret_bool F.out.symm, HW2.out⟩
end Go.Proofs.Ytdnbbodolpgphaa
