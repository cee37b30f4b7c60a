/-
  Walk: toLowerCaseASCII: the text with its letters of ASCII in lower case, whatever its bytes. Texts of at most 2^31 bytes. Then impl.Lower.
-/
import Derived.Test.YtdnbbodolpgphaaW5
namespace Go.Proofs.Ytdnbbodolpgphaa
open Go.RowKit

/-- No capital among the first bytes. -/
def NoCap (s : ByteArray) (k : Nat) : Prop := ∀ j (h : j < s.size), j < k → ¬ (65 ≤ (s[j]'h).toNat ∧ (s[j]'h).toNat ≤ 90)
theorem NoCap.all {s : ByteArray} {k : Nat} (h : NoCap s k) (hk : s.size ≤ k) : ofBytes (lowL (bytes s)) = s := by
  rw [lowL_same, ofBytes_bytes]
  intro c hc
  obtain ⟨j, hj, rfl⟩ := List.getElem_of_mem hc
  have hj' : j < s.size := by rw [bytes_length] at hj; exact hj
  rw [bytes_at s j hj' hj]
  exact h j hj' (by omega)
theorem NoCap.step {s : ByteArray} {k : Nat} (h : NoCap s k) (hk : k < s.size) (h1 : (Utf8.decode s k).1 ≠ 65533) (h2 : ¬ (65 ≤ (Utf8.decode s k).1 ∧ (Utf8.decode s k).1 ≤ 90)) :
    NoCap s (k + (Utf8.decode s k).2) ∧ 1 ≤ (Utf8.decode s k).2 := by
  rcases decode_step s k hk h1 with ⟨e1, e2⟩ | ⟨e1, e2, e3⟩
  · refine ⟨fun j hj hlt => ?_, by omega⟩
    by_cases e : j < k
    · exact h j hj e
    · have : j = k := by omega
      subst this
      rw [← e2]; exact h2
  · refine ⟨fun j hj hlt => ?_, e1⟩
    by_cases e : j < k
    · exact h j hj e
    · have := e3 j hj (by omega) hlt
      omega

/-- The row that is being turned: behind k rounds its first k bytes are in lower case. -/
def Turned (s : ByteArray) (k : Nat) (C : Array Value) : Prop := ∀ j (h : j < s.size), C[j]? = some (.int .u8 ((if j < k then (lowB (s[j]'h)).toNat else (s[j]'h).toNat : Nat) : Int))

theorem Turned.start {s : ByteArray} {C : Array Value} (h : ∀ j (hj : j < s.size), C[j]? = some (.int .u8 ((s[j]'hj).toNat : Int))) : Turned s 0 C := fun j hj => by
  rw [h j hj, if_neg (by omega)]
theorem Turned.skip {s : ByteArray} {k : Nat} {C : Array Value} (h : Turned s k C) (hk : k < s.size) (hc : ¬ (65 ≤ (s[k]'hk).toNat ∧ (s[k]'hk).toNat ≤ 90)) : Turned s (k + 1) C := fun j hj => by
  rw [h j hj]
  by_cases e : j = k
  · subst e; rw [if_neg (by omega), if_pos (by omega), lowB_same hc]
  · by_cases e2 : j < k
    · rw [if_pos e2, if_pos (by omega)]
    · rw [if_neg e2, if_neg (by omega)]
theorem Turned.set {s : ByteArray} {k : Nat} {C : Array Value} (h : Turned s k C) (hk : k < s.size) (hc : 65 ≤ (s[k]'hk).toNat ∧ (s[k]'hk).toNat ≤ 90) : Turned s (k + 1) (C.setIfInBounds k (.int .u8 (((s[k]'hk).toNat : Int) + 32))) := fun j hj => by
  have hsz : k < C.size := by
    have := h k hk
    rcases Nat.lt_or_ge k C.size with h' | h'
    · exact h'
    · rw [Array.getElem?_eq_none h'] at this; cases this
  by_cases e : j = k
  · subst e
    rw [if_pos (by omega), lowB_up hc]
    simp [hsz]
  · rw [Array.getElem?_setIfInBounds_ne (by omega), h j hj]
    by_cases e2 : j < k
    · rw [if_pos e2, if_pos (by omega)]
    · rw [if_neg e2, if_neg (by omega)]
theorem Turned.rd {s : ByteArray} {k g : Nat} {C : Array Value} {W : World} {t : TypeId} {fr : Nat × Nat} (h : Turned s k C) (hk : s.size ≤ k) (hb : W.heap[g]? = some (.cells C t fr)) : Rd W (some ⟨g, 0, none⟩) (u8s (lowL (bytes s))) := fun j v hv => by
  refine ⟨_, rfl, blk_lt hb, ?_⟩
  have hj : j < s.size := by
    have := (List.getElem?_eq_some_iff.1 hv).1
    simpa [u8s, lowL_length, bytes_length] using this
  rw [show (⟨g, 0, none⟩ : Addr).add j = ⟨g, j, none⟩ by simp [Addr.add]; intro h; exact h.symm, blk_cell hb, h j hj, if_pos (by omega), ← hv]
  have hj' : j < (bytes s).length := by rw [bytes_length]; exact hj
  simp only [u8s, lowL, List.getElem?_map, List.getElem?_eq_getElem hj', Option.map_some]
  exact congrArg (fun x : UInt8 => some (Value.int .u8 ((lowB x).toNat : Int))) (bytes_at s j hj hj').symm

set_option maxHeartbeats 2000000 in
theorem toLower_any (s : ByteArray) (hs : s.size ≤ 2147483647) (w : World) :
    Calls Try.prog 62 #[.string s] w (Ret (.string (ofBytes (lowL (bytes s)))) w) := by
  go_enter Try.func62, Try.ntmps62
  go_wp2
  go_loopg [3] s.size (fun kx f wr => ∃ k : Nat, s.size - k ≤ kx ∧ f = .bool true ∧ wr = w.iter s k ∧ Aside (NoCap s k))
  case atStart => exact ⟨0, by omega, rfl, rfl, fun j h h' => by omega⟩
  case round =>
    obtain ⟨k, hg, rfl, rfl, A⟩ := hrel
    by_cases hlt : k < s.size
    · have hnext := fun ty => run_next_any (P := Try.prog) w s k ty hlt
      have hle := decode_le s k
      by_cases he : (Utf8.decode s k).1 ≠ 65533 ∧ ¬ (65 ≤ (Utf8.decode s k).1 ∧ (Utf8.decode s k).1 ≤ 90)
      · obtain ⟨A2, hp⟩ := A.out.step hlt he.1 he.2
        obtain ⟨he, hc⟩ := he
        have A3 := Lib.hid A2
        clear A A2
        generalize (Utf8.decode s k).1 = r at *
        generalize (Utf8.decode s k).2 = m at *
        have he' : ((r : Int) == 65533) = false := by simp; omega
        clear he
        by_cases hr : 65 ≤ r
        all_goals
          go_wp2
          go_roundg (s.size - (k + m))
          case measure => omega
          case rel => exact ⟨k + m, by omega, rfl, rfl, A3.out⟩
      · have B : ((((Utf8.decode s k).1 : Int) == 65533) = true) ∨ ((((Utf8.decode s k).1 : Int) == 65533) = false ∧ decide ((65 : Int) ≤ ((Utf8.decode s k).1 : Int)) = true ∧ decide (((Utf8.decode s k).1 : Int) ≤ 90) = true) := by
          simp; omega
        clear he A
        have hb0 : Below w.heap.size w (w.iter s (k + (Utf8.decode s k).2)) := Below.one _ _
        have hz0 : w.heap.size < (w.iter s (k + (Utf8.decode s k).2)).heap.size := by simp [World.iter]
        obtain ⟨cap, C0, lo, hconv, hlo, hC0⟩ := conv_bytes s (w.iter s (k + (Utf8.decode s k).2))
        have T0 := Lib.hid (Turned.start hC0)
        clear hC0
        generalize (Utf8.decode s k).1 = r at *
        generalize w.iter s (k + (Utf8.decode s k).2) = W0 at *
        rcases B with B | ⟨B, B1, B2⟩
        all_goals
          go_wp2
          go_loopg [28] s.size (fun kx i wr => ∃ (k : Nat) (C : Array Value), k ≤ s.size ∧ s.size - k ≤ kx ∧ i = .int .i64 k ∧ Aside (Turned s k C) ∧ wr.heap[W0.heap.size]? = some (.cells C 5 (lo, lo + 1)) ∧ Below w.heap.size w wr)
          case atStart => exact ⟨0, C0, by omega, by omega, rfl, T0.out, blk_new _ _, (hb0.alloc (Nat.le_of_lt hz0) _).drew⟩
          case round =>
            obtain ⟨k, C, hk, hg, rfl, T, hblk, hb⟩ := hrel
            by_cases hlt : k < s.size
            · have hcell := blk_cell hblk k
              rw [T.out k hlt, if_neg (by omega)] at hcell
              have hfree := blk_free hblk (j := k) (by show k < lo; omega)
              by_cases hcp : 65 ≤ (s[k]'hlt).toNat ∧ (s[k]'hlt).toNat ≤ 90
              · have T2 := Lib.hid (T.out.set hlt hcp)
                have hblk2 := Lib.hid (blk_set hblk k (.int .u8 (((s[k]'hlt).toNat : Int) + 32)))
                have hb2 := Lib.hid (hb.setCell (p := ⟨W0.heap.size, k, none⟩) (Nat.le_of_lt hz0) (.int .u8 (((s[k]'hlt).toNat : Int) + 32)))
                obtain ⟨hc1, hc2⟩ := hcp
                clear T hblk hb
                go_wp2
                go_roundg (s.size - (k + 1))
                case measure => omega
                case rel => exact ⟨k + 1, _, by omega, by omega, by go_num, T2.out, hblk2.out, hb2.out⟩
              · have T2 := Lib.hid (T.out.skip hlt hcp)
                have hcp' : (s[k]'hlt).toNat < 65 ∨ (90 < (s[k]'hlt).toNat ∧ decide (((s[k]'hlt).toNat : Int) ≤ 90) = false) := by
                  simp; omega
                clear T hcp
                rcases hcp' with hc | ⟨hc, hc'⟩
                all_goals
                  go_wp2
                  go_roundg (s.size - (k + 1))
                  case measure => omega
                  case rel => exact ⟨k + 1, C, by omega, by omega, by go_num, T2.out, hblk, hb⟩
            · have hconv2 := conv_back wr (some ⟨W0.heap.size, 0, none⟩) cap _ s.size (by rw [lowL_length, bytes_length]) (T.out.rd (by omega) hblk)
              clear T hblk
              go_wp2
              go_ret
              exact ⟨rfl, hb⟩
    · have E := Lib.hid (A.out.all (by omega))
      have hnext := fun ty => run_next_end (P := Try.prog) w s k ty hlt
      clear A
      go_wp2
      go_ret
      exact ⟨ret_str E.out.symm, Below.one _ _⟩

theorem zzLower_any (s : ByteArray) (hs : s.size ≤ 2147483647) (w : World) :
    Calls Try.prog 50 #[.string s] w (Ret (.string (ofBytes (lowL (bytes s)))) w) := by
  go_enter Try.func50, Try.ntmps50
  go_wp2_with (go_at_call 62; refine (toLower_any s hs _).mono ?_; rintro e w' ⟨rfl, hb⟩)
  go_ret
  exact ⟨rfl, hb⟩
theorem implLower_any (s : ByteArray) (hs : s.size ≤ 2147483647) (w : World) :
    Calls Try.prog 24 #[.string s] w (Ret (.string (ofBytes (lowL (bytes s)))) w) := by
  go_enter Try.func24, Try.ntmps24
  go_wp2_with (go_at_call 50; refine (zzLower_any s hs _).mono ?_; rintro e w' ⟨rfl, hb⟩)
  go_ret
  exact ⟨rfl, hb⟩
end Go.Proofs.Ytdnbbodolpgphaa
