/-
  Walks: spec.Pattern, matchHostnames, impl.Match. Texts of at most 2^30 bytes.
-/
import Derived.Test.YtdnbbodolpgphaaW14
namespace Go.Proofs.Ytdnbbodolpgphaa
open Go.RowKit

/-- A pattern's labels meet a host's, one by one; a star as the first one meets any. -/
def patP (ps hs : List ByteArray) : Prop := ps.length = hs.length ∧ ∀ j (h : j < ps.length) (h' : j < hs.length), ps[j] = hs[j] ∨ (j = 0 ∧ ps[j].toList = [42])
/-- The same for the labels behind the first k. -/
def patT (ps hs : List ByteArray) (k : Nat) : Prop := ∀ j (h : j < ps.length) (h' : j < hs.length), j < k → ps[j] = hs[j] ∨ (j = 0 ∧ ps[j].toList = [42])
theorem patT.next {ps hs : List ByteArray} {k : Nat} (h : patT ps hs k) (hk : k < ps.length) (hk' : k < hs.length) (he : ps[k] = hs[k] ∨ (k = 0 ∧ ps[k].toList = [42])) : patT ps hs (k + 1) := fun j a b hj => by
  by_cases e : j < k
  · exact h j a b e
  · have : j = k := by omega
    subst this; exact he
theorem patP.no {ps hs : List ByteArray} {k : Nat} {b : Bool} (hb : b = true ↔ patP ps hs) (hk : k < ps.length) (hk' : k < hs.length) (h1 : ps[k] ≠ hs[k]) (h2 : ¬ (k = 0 ∧ ps[k].toList = [42])) : b = false := by
  cases b
  · rfl
  · exact absurd ((hb.1 rfl).2 k hk hk') (by rintro (h | h); exact h1 h; exact h2 h)
theorem patP.size {ps hs : List ByteArray} {b : Bool} (hb : b = true ↔ patP ps hs) (h : ps.length ≠ hs.length) : b = false := by
  cases b
  · rfl
  · exact absurd (hb.1 rfl).1 h
theorem patP.yes {ps hs : List ByteArray} {k : Nat} {b : Bool} (hb : b = true ↔ patP ps hs) (h : ps.length = hs.length) (hk : ps.length ≤ k) (ht : patT ps hs k) : b = true :=
  hb.2 ⟨h, fun j a c => ht j a c (by omega)⟩
theorem list_ne {x y : ByteArray} (h : x ≠ y) : (x.toList == y.toList) = false := by
  simp only [beq_eq_false_iff_ne, ne_eq]
  intro e
  rw [ByteArray.toList_eq, ByteArray.toList_eq] at e
  exact h (bytes_inj e)
theorem list_eq {x y : ByteArray} (h : x = y) : (x.toList == y.toList) = true := by rw [h]; simp

set_option maxHeartbeats 2000000 in
theorem pattern_any (A1 A2 : Option Addr) (n1 n2 c1 c2 : Nat) (ps hs : List ByteArray) (w : World) (b : Bool) (hb : b = true ↔ patP ps hs) (hn1 : n1 = ps.length) (hn2 : n2 = hs.length) (hl1 : n1 ≤ 2147483648) (hl2 : n2 ≤ 2147483648) (hx : Rd w A1 (strs ps)) (hy : Rd w A2 (strs hs)) :
    Calls Try.prog 34 #[.slice A1 n1 c1, .slice A2 n2 c2] w (Ret (.bool b) w) := by
  subst hn1 hn2
  have HX := Lib.hid hx
  have HY := Lib.hid hy
  have HB := Lib.hid hb
  clear hx hy hb
  by_cases hne : ps.length ≠ hs.length
  · have F := Lib.hid (patP.size HB.out hne)
    have hne' : ((ps.length : Int) == (hs.length : Int)) = false := by simp; omega
    clear hne HB
    go_enter Try.func34, Try.ntmps34
    go_wp2
    go_ret
    exact ⟨ret_bool F.out.symm, Below.refl _ _⟩
  have hne' : ((ps.length : Int) != (hs.length : Int)) = false := by simp; omega
  have hle : ps.length = hs.length := by omega
  have HLE := Lib.hid hle
  have hle1 : hs.length ≤ ps.length := by omega
  have hle2 : ps.length ≤ hs.length := by omega
  clear hne hle
  go_enter Try.func34, Try.ntmps34
  go_wp2
  go_loopg [14] ps.length (fun kx i wr => ∃ k : Nat, k ≤ ps.length ∧ ps.length - k ≤ kx ∧ i = .int .i64 k ∧ Aside (patT ps hs k) ∧ Below w.heap.size w wr)
  case atStart => exact ⟨0, by omega, by omega, rfl, fun j h h' hk => by omega, Below.refl _ _⟩
  case round =>
    obtain ⟨k, hk, hg, rfl, Q, hb⟩ := hrel
    by_cases hlt : k < ps.length
    · have hlt2 : k < hs.length := by omega
      obtain ⟨ad1, rfl, h1l, hc1⟩ := (HX.out.below hb) k _ (strs_get hlt)
      obtain ⟨ad2, rfl, h2l, hc2⟩ := (HY.out.below hb) k _ (strs_get hlt2)
      by_cases he : ps[k] = hs[k]
      · have Q2 : Aside (patT ps hs (k + 1)) := Q.out.next hlt hlt2 (.inl he)
        have heb := list_eq he
        clear Q he
        generalize ps[k] = x at *
        generalize hs[k] = y at *
        go_wp2
        go_roundg (ps.length - (k + 1))
        case measure => omega
        case rel => exact ⟨k + 1, by omega, by omega, by go_num, Q2, hb⟩
      · have heb := list_ne he
        by_cases hstar : k = 0 ∧ ps[k].toList = [42]
        · have Q2 : Aside (patT ps hs (k + 1)) := Q.out.next hlt hlt2 (.inr hstar)
          have hst : (ps[k].toList == [42]) = true := by rw [hstar.2]; rfl
          have hg0 : decide (0 < k) = false := decide_eq_false (by omega)
          clear Q he hstar
          generalize ps[k] = x at *
          generalize hs[k] = y at *
          go_wp2
          go_roundg (ps.length - (k + 1))
          case measure => omega
          case rel => exact ⟨k + 1, by omega, by omega, by go_num, Q2, hb⟩
        · have F := Lib.hid (patP.no HB.out hlt hlt2 he hstar)
          have hcs : (decide (0 < k) = false ∧ (ps[k].toList == [42]) = false) ∨ 0 < k := by
            by_cases h0 : k = 0
            · left; refine ⟨decide_eq_false (by omega), ?_⟩
              simp only [beq_eq_false_iff_ne, ne_eq]
              exact fun h => hstar ⟨h0, h⟩
            · right; omega
          clear Q he hstar
          generalize ps[k] = x at *
          generalize hs[k] = y at *
          rcases hcs with ⟨h0, hst⟩ | h0
          all_goals
            go_wp2
            go_ret
            exact ⟨ret_bool F.out.symm, hb⟩
    · have F := Lib.hid (patP.yes HB.out HLE.out (by omega) Q.out)
      clear Q
      go_wp2
      go_ret
      exact ⟨ret_bool F.out.symm, hb⟩
end Go.Proofs.Ytdnbbodolpgphaa
