/-
  Walks: splitHostname, impl.Split, slices.Equal of texts. Texts of at most 2^30 bytes.
-/
import Derived.Test.YtdnbbodolpgphaaW13
namespace Go.Proofs.Ytdnbbodolpgphaa
open Go.RowKit

theorem own_base {w : World} {b b' : Nat} {e : TypeId} {v : Value} {n : Nat} {xs : List Value} (h : w.ownsRow b e 1 v n xs) (hb : b' ≤ b) : w.ownsRow b' e 1 v n xs := by
  obtain ⟨h1, h2⟩ := h
  refine ⟨h1, ?_⟩
  rcases h2 with h | ⟨g, cap, cur, h3, h4, h5⟩
  · exact .inl h
  · exact .inr ⟨g, cap, cur, h3, by omega, h5⟩
theorem size_ofBytes (l : List UInt8) : (ofBytes l).size = l.length := by rw [← bytes_length, bytes_ofBytes]
theorem trim46_length (l : List UInt8) : (trim46 l).length ≤ l.length := by
  unfold trim46; split <;> simp
/-- The labels of a host's name. -/
def splitL (l : List UInt8) : List UInt8 := lowL (trim46 l)
theorem splitL_length (l : List UInt8) : (splitL l).length ≤ l.length := by unfold splitL; rw [lowL_length]; exact trim46_length l

set_option maxHeartbeats 1000000 in
theorem splitHost_any (s : ByteArray) (hs : s.size ≤ 1073741824) (w : World) :
    Calls Try.prog 69 #[.string s] w (LabPost w (splitL (bytes s))) := by
  have h1 := Lib.hid (fun W => trimDot_any s (by omega) W)
  have hz1 : (ofBytes (trim46 (bytes s))).size ≤ 1073741824 := by
    rw [size_ofBytes]; have := trim46_length (bytes s); rw [bytes_length] at this; omega
  have h2 := Lib.hid (fun W => toLower_any (ofBytes (trim46 (bytes s))) (by omega) W)
  have hz2 : (ofBytes (lowL (bytes (ofBytes (trim46 (bytes s)))))).size ≤ 1073741824 := by
    rw [size_ofBytes, lowL_length, bytes_length]; exact hz1
  have h3 := fun W => zzSplit_any (ofBytes (lowL (bytes (ofBytes (trim46 (bytes s)))))) hz2 W
  have e : bytes (ofBytes (lowL (bytes (ofBytes (trim46 (bytes s)))))) = splitL (bytes s) := by
    rw [bytes_ofBytes, bytes_ofBytes]; rfl
  rw [e] at h3
  have H3 := Lib.hid h3
  clear h3 e hz1 hz2
  generalize ofBytes (lowL (bytes (ofBytes (trim46 (bytes s))))) = y at *
  generalize ofBytes (trim46 (bytes s)) = x at *
  go_enter Try.func69, Try.ntmps69
  go_wp2_with (first | ((with_reducible refine (h1.out _).mono ?_); rintro e w1 ⟨rfl, rfl⟩) | ((with_reducible refine (h2.out _).mono ?_); rintro e w2 ⟨rfl, hb2⟩) | ((with_reducible refine (H3.out _).mono ?_); rintro e w3 ⟨v, rfl, hown, hb3⟩))
  go_ret
  exact ⟨v, rfl, own_base hown hb2.size, Below.next hb2 hb3⟩
theorem zzSplitHost_any (s : ByteArray) (hs : s.size ≤ 1073741824) (w : World) :
    Calls Try.prog 57 #[.string s] w (LabPost w (splitL (bytes s))) := by
  go_enter Try.func57, Try.ntmps57
  go_wp2_with (go_at_call 69; refine (splitHost_any s hs _).mono ?_; rintro e w1 ⟨v, rfl, hown, hb⟩)
  go_ret
  exact ⟨v, rfl, hown, hb⟩
theorem labelsB_le (l : List UInt8) : (labelsB l).length ≤ l.length + 1 := by
  have := splitDot_length_le l
  simpa [labelsB] using this
set_option maxHeartbeats 1000000 in
theorem implSplit_any (s : ByteArray) (hs : s.size ≤ 1073741824) (w : World) :
    Calls Try.prog 36 #[.string s] w (LabPost w (splitL (bytes s))) := by
  have hl : (labelsB (splitL (bytes s))).length ≤ 2147483648 := by
    have h1 := labelsB_le (splitL (bytes s))
    have h2 := splitL_length (bytes s)
    rw [bytes_length] at h2
    omega
  go_enter Try.func36, Try.ntmps36
  go_wp2_with fail
  refine (zzSplitHost_any s hs _).mono ?_
  rintro e w1 ⟨v, rfl, hown, hb⟩
  have hsz := hb.size
  go_wp2_with (at_builtin; refine wpList_copy_strs rfl _ _ rfl rfl w.heap.size w.heap.size _ _ rfl hown hl hsz ?_)
  intro v2 w2 hown2 hb2
  clear hown
  go_wp2
  go_ret
  exact ⟨v2, rfl, hown2, Below.next hb hb2⟩

set_option maxHeartbeats 2000000 in
/-- slices.Equal of texts. -/
theorem equal_any (A1 A2 : Option Addr) (n1 n2 c1 c2 : Nat) (xs ys : List ByteArray) (w : World) (hn1 : n1 = xs.length) (hn2 : n2 = ys.length) (hl1 : n1 ≤ 2147483648) (hl2 : n2 ≤ 2147483648) (hx : Rd w A1 (strs xs)) (hy : Rd w A2 (strs ys)) :
    Calls Try.prog 35 #[.slice A1 n1 c1, .slice A2 n2 c2] w (Ret (.bool (decide (xs = ys))) w) := by
  subst hn1 hn2
  have HX := Lib.hid hx
  have HY := Lib.hid hy
  clear hx hy
  by_cases hne : xs.length ≠ ys.length
  · have F : Hid (decide (xs = ys) = false) := decide_eq_false fun h => hne (by rw [h])
    have hne' : ((xs.length : Int) != (ys.length : Int)) = true := by simp; omega
    clear hne
    go_enter Try.func35, Try.ntmps35
    go_wp2
    go_ret
    exact ⟨ret_bool F.out.symm, Below.refl _ _⟩
  have hne' : ((xs.length : Int) != (ys.length : Int)) = false := by simp; omega
  have hle : ys.length ≤ xs.length := by omega
  have hle2 : xs.length ≤ ys.length := by omega
  clear hne
  go_enter Try.func35, Try.ntmps35
  go_wp2
  go_loopg [13] xs.length (fun kx i wr => ∃ k : Nat, k ≤ xs.length ∧ xs.length - k ≤ kx ∧ i = .int .i64 k ∧ Aside (∀ j (h : j < xs.length) (h' : j < ys.length), j < k → xs[j] = ys[j]) ∧ Below w.heap.size w wr)
  case atStart => exact ⟨0, by omega, by omega, rfl, fun j h h' hk => by omega, Below.refl _ _⟩
  case round =>
    obtain ⟨k, hk, hg, rfl, Q, hb⟩ := hrel
    by_cases hlt : k < xs.length
    · have hlt2 : k < ys.length := by omega
      obtain ⟨ad1, rfl, h1l, hc1⟩ := (HX.out.below hb) k _ (strs_get hlt)
      obtain ⟨ad2, rfl, h2l, hc2⟩ := (HY.out.below hb) k _ (strs_get hlt2)
      by_cases he : xs[k] = ys[k]
      · have Q2 : Aside (∀ j (h : j < xs.length) (h' : j < ys.length), j < k + 1 → xs[j] = ys[j]) := fun j h h' hj => by
          by_cases e : j < k
          · exact Q.out j h h' e
          · have : j = k := by omega
            subst this; exact he
        have heb : (xs[k].toList == ys[k].toList) = true := by rw [he]; simp
        clear Q he
        generalize xs[k] = x at *
        generalize ys[k] = y at *
        go_wp2
        go_quiet (fail)
        go_wp2
        go_roundg (xs.length - (k + 1))
        case measure => omega
        case rel => exact ⟨k + 1, by omega, by omega, by go_num, Q2, below_drewN hb _⟩
      · have F : Hid (decide (xs = ys) = false) := by
          refine decide_eq_false fun h => he ?_
          have := congrArg (fun l : List ByteArray => l[k]?) h
          simp only [List.getElem?_eq_getElem hlt, List.getElem?_eq_getElem hlt2] at this
          exact Option.some.inj this
        have heb : (xs[k].toList == ys[k].toList) = false := by
          simp only [beq_eq_false_iff_ne, ne_eq]
          intro h
          rw [ByteArray.toList_eq, ByteArray.toList_eq] at h
          exact he (bytes_inj h)
        clear Q he
        generalize xs[k] = x at *
        generalize ys[k] = y at *
        go_wp2
        go_quiet (fail)
        go_wp2
        go_ret
        exact ⟨ret_bool F.out.symm, below_drewN hb _⟩
    · have F : Hid (decide (xs = ys) = true) := by
        refine decide_eq_true (List.ext_getElem (by omega) fun j h h' => ?_)
        exact Q.out j h h' (by omega)
      clear Q
      go_wp2
      go_ret
      exact ⟨ret_bool F.out.symm, hb⟩
end Go.Proofs.Ytdnbbodolpgphaa
