/-
  Walks: matchHostnames, impl.Match. Texts of at most 2^30 bytes.
-/
import Derived.Test.YtdnbbodolpgphaaW15
namespace Go.Proofs.Ytdnbbodolpgphaa
open Go.RowKit

set_option maxHeartbeats 2000000 in
theorem matchHost_any (s : ByteArray) (hs : s.size ≤ 1073741824) (h0 : 0 < s.size) (A2 : Option Addr) (n2 c2 : Nat) (qs : List ByteArray) (w : World) (b : Bool) (hb : b = true ↔ patP (labelsB (lowL (bytes s))) qs) (hn2 : n2 = qs.length) (hl2 : n2 ≤ 2147483648) (hq : 0 < qs.length) (hy : Rd w A2 (strs qs)) :
    Calls Try.prog 68 #[.string s, .slice A2 n2 c2] w (Ret (.bool b) w) := by
  subst hn2
  have hxs : (ofBytes (lowL (bytes s))).size = s.size := by rw [size_ofBytes, lowL_length, bytes_length]
  have HLow := Lib.hid (fun W => toLower_any s (by omega) W)
  have hsp := fun W => zzSplit_any (ofBytes (lowL (bytes s))) (by omega) W
  rw [bytes_ofBytes] at hsp
  have HSp := Lib.hid hsp
  have hps : (labelsB (lowL (bytes s))).length ≤ 2147483648 := by
    have := labelsB_le (lowL (bytes s))
    rw [lowL_length, bytes_length] at this
    omega
  have hx0 : ((ofBytes (lowL (bytes s))).size == 0) = false := by rw [hxs]; exact beq_eq_false_iff_ne.2 (by omega)
  have hx0' : 0 < (ofBytes (lowL (bytes s))).size := by omega
  have HB := Lib.hid hb
  have HY := Lib.hid hy
  clear hsp hb hy hx0
  generalize ofBytes (lowL (bytes s)) = x at *
  generalize lowL (bytes s) = l at *
  have hq0 : ((qs.length : Int) == 0) = false := beq_eq_false_iff_ne.2 (by omega)
  have hx0 : ((x.size : Int) == 0) = false := beq_eq_false_iff_ne.2 (by omega)
  clear hq h0 hxs hx0'
  go_enter Try.func68, Try.ntmps68
  go_wp2_with fail
  refine (HLow.out _).mono ?_
  rintro e w1 ⟨rfl, hb1⟩
  go_wp2_with fail
  refine (HSp.out _).mono ?_
  rintro e w2 ⟨v, rfl, hown, hb2⟩
  obtain ⟨A1, c1, rfl, -, -, hr, -⟩ := Rd.own hown
  have HX := Lib.hid hr
  have HW := Lib.hid (Below.next hb1 hb2)
  have HY2 := Lib.hid (HY.out.below HW.out)
  clear hown hr HLow HSp HY hb1 hb2
  generalize labelsB l = ps at *
  by_cases hne : ps.length ≠ qs.length
  · have F := Lib.hid (patP.size HB.out hne)
    have hne' : ((ps.length : Int) != (qs.length : Int)) = true := by simp; omega
    clear hne HB
    go_wp2
    go_ret
    exact ⟨ret_bool F.out.symm, HW.out⟩
  have hne' : ((ps.length : Int) != (qs.length : Int)) = false := by simp; omega
  have HLE := Lib.hid (show ps.length = qs.length by omega)
  have hle1 : qs.length ≤ ps.length := by omega
  have hle2 : ps.length ≤ qs.length := by omega
  clear hne
  go_wp2
  go_loopg [27] ps.length (fun kx i wr => ∃ k : Nat, k ≤ ps.length ∧ ps.length - k ≤ kx ∧ i = .int .i64 k ∧ Aside (patT ps qs k) ∧ Below w2.heap.size w2 wr)
  case atStart => exact ⟨0, by omega, by omega, rfl, fun j h h' hk => by omega, Below.refl _ _⟩
  case round =>
    obtain ⟨k, hk, hg, rfl, Q, hb⟩ := hrel
    have HW2 := Lib.hid (Below.next HW.out hb)
    by_cases hlt : k < ps.length
    · have hlt2 : k < qs.length := by omega
      obtain ⟨ad1, rfl, h1l, hc1⟩ := (HX.out.below hb) k _ (strs_get hlt)
      obtain ⟨ad2, rfl, h2l, hc2⟩ := (HY2.out.below hb) k _ (strs_get hlt2)
      by_cases hstar : k = 0 ∧ ps[k].toList = [42]
      · have Q2 : Aside (patT ps qs (k + 1)) := Q.out.next hlt hlt2 (.inr hstar)
        have hst : (ps[k].toList == [42]) = true := by rw [hstar.2]; rfl
        have hg0 : ((k : Int) == 0) = true := by rw [hstar.1]; rfl
        clear Q hstar
        generalize ps[k] = x at *
        generalize qs[k] = y at *
        go_wp2
        go_roundg (ps.length - (k + 1))
        case measure => omega
        case rel => exact ⟨k + 1, by omega, by omega, by go_num, Q2, hb⟩
      have hcs : (((k : Int) == 0) = true ∧ (ps[k].toList == [42]) = false) ∨ ((k : Int) == 0) = false := by
        by_cases h0 : k = 0
        · left; refine ⟨by rw [h0]; rfl, ?_⟩
          simp only [beq_eq_false_iff_ne, ne_eq]
          exact fun h => hstar ⟨h0, h⟩
        · right; exact beq_eq_false_iff_ne.2 (by omega)
      by_cases he : ps[k] = qs[k]
      · have Q2 : Aside (patT ps qs (k + 1)) := Q.out.next hlt hlt2 (.inl he)
        have heb := list_eq he
        clear Q he hstar
        generalize ps[k] = x at *
        generalize qs[k] = y at *
        rcases hcs with ⟨h0, hst⟩ | h0
        all_goals
          go_wp2
          go_roundg (ps.length - (k + 1))
          case measure => omega
          case rel => exact ⟨k + 1, by omega, by omega, by go_num, Q2, hb⟩
      · have heb := list_ne he
        have F := Lib.hid (patP.no HB.out hlt hlt2 he hstar)
        clear Q he hstar
        generalize ps[k] = x at *
        generalize qs[k] = y at *
        rcases hcs with ⟨h0, hst⟩ | h0
        all_goals
          go_wp2
          go_ret
          exact ⟨ret_bool F.out.symm, HW2.out⟩
    · have F := Lib.hid (patP.yes HB.out HLE.out (by omega) Q.out)
      clear Q
      go_wp2
      go_ret
      exact ⟨ret_bool F.out.symm, HW2.out⟩

theorem zzMatch_any (s : ByteArray) (hs : s.size ≤ 1073741824) (h0 : 0 < s.size) (A2 : Option Addr) (n2 c2 : Nat) (qs : List ByteArray) (w : World) (b : Bool) (hb : b = true ↔ patP (labelsB (lowL (bytes s))) qs) (hn2 : n2 = qs.length) (hl2 : n2 ≤ 2147483648) (hq : 0 < qs.length) (hy : Rd w A2 (strs qs)) :
    Calls Try.prog 56 #[.string s, .slice A2 n2 c2] w (Ret (.bool b) w) := by
  have H := Lib.hid (matchHost_any s hs h0 A2 n2 c2 qs w b hb hn2 hl2 hq hy)
  clear hb hy hn2 hq
  go_enter Try.func56, Try.ntmps56
  go_wp2_with fail
  refine H.out.mono ?_
  rintro e w1 ⟨rfl, hb1⟩
  go_wp2
  go_ret
  exact ⟨rfl, hb1⟩

set_option maxHeartbeats 1000000 in
theorem implMatch_any (s : ByteArray) (hs : s.size ≤ 1073741824) (h0 : 0 < s.size) (base : Nat) (v : Value) (qs : List ByteArray) (w : World) (b : Bool) (hb : b = true ↔ patP (labelsB (lowL (bytes s))) qs) (hl2 : qs.length ≤ 2147483648) (hq : 0 < qs.length) (hown : w.ownsRow base 9 1 v qs.length (strs qs)) :
    Calls Try.prog 33 #[.string s, v] w (Ret (.bool b) w) := by
  have HB := Lib.hid hb
  have HO := Lib.hid hown
  clear hb hown
  go_enter Try.func33, Try.ntmps33
  go_wp2_with (at_builtin; refine wpList_copy_strs rfl _ _ rfl rfl base w.heap.size _ _ rfl HO.out hl2 (Nat.le_refl _) ?_)
  intro v2 w2 hown2 hb2
  obtain ⟨A, c, rfl, -, -, hr, -⟩ := Rd.own hown2
  have H := Lib.hid (zzMatch_any s hs h0 A qs.length c qs w2 b HB.out rfl hl2 hq hr)
  clear hown2 hr HO HB
  go_wp2_with fail
  refine H.out.mono ?_
  rintro e w3 ⟨rfl, hb3⟩
  go_wp2
  go_ret
  exact ⟨rfl, Below.next hb2 hb3⟩
end Go.Proofs.Ytdnbbodolpgphaa
