/-
  Walk: toLowerCaseASCII: the text with its letters of ASCII in lower case, whatever its bytes. Texts of at most 2^31 bytes. Then impl.Lower.
-/
import Derived.Test.YtdinnpjplgkffaaGreatDoorW5
namespace Go.Proofs.YtdinnpjplgkffaaGreatDoor
open Go.RowKit

/-- No capital among the first bytes. -/
def NoCap (s : ByteArray) (k : Nat) : Prop := ∀ j (h : j < s.size), j < k → ¬ (65 ≤ (s[j]'h).toNat ∧ (s[j]'h).toNat ≤ 90)
theorem NoCap.all {s : ByteArray} {k : Nat} (h : NoCap s k) (hk : s.size ≤ k) : ofBytes (lowL (bytes s)) = s := by
  rw [lowL_same, ofBytes_bytes]
  intro c hc
  obtain ⟨j, hj, rfl⟩ := List.getElem_of_mem hc
  have hj' : j < s.size := by rw [bytes_length] at hj; exact hj
  rw [bytes_at s j hj' hj]
  exact h j hj' (by omega)
theorem NoCap.step {s : ByteArray} {k : Nat} (h : NoCap s k) (hk : k < s.size) (h1 : (Utf8.decode s k).1 ≠ 65533) (h2 : ¬ (65 ≤ (Utf8.decode s k).1 ∧ (Utf8.decode s k).1 ≤ 90)) :
    NoCap s (k + (Utf8.decode s k).2) ∧ 1 ≤ (Utf8.decode s k).2 := by
  rcases decode_step s k hk h1 with ⟨e1, e2⟩ | ⟨e1, e2, e3⟩
  · refine ⟨fun j hj hlt => ?_, by omega⟩
    by_cases e : j < k
    · exact h j hj e
    · have : j = k := by omega
      subst this
      rw [← e2]; exact h2
  · refine ⟨fun j hj hlt => ?_, e1⟩
    by_cases e : j < k
    · exact h j hj e
    · have := e3 j hj (by omega) hlt
      omega

/-- The row that is being turned: behind k rounds its first k bytes are in lower case. -/
def Turned (s : ByteArray) (k : Nat) (C : Array Value) : Prop := ∀ j (h : j < s.size), C[j]? = some (.int .u8 ((if j < k then (lowB (s[j]'h)).toNat else (s[j]'h).toNat : Nat) : Int))

theorem Turned.start {s : ByteArray} {C : Array Value} (h : ∀ j (hj : j < s.size), C[j]? = some (.int .u8 ((s[j]'hj).toNat : Int))) : Turned s 0 C := fun j hj => by
  rw [h j hj, if_neg (by omega)]
theorem Turned.skip {s : ByteArray} {k : Nat} {C : Array Value} (h : Turned s k C) (hk : k < s.size) (hc : ¬ (65 ≤ (s[k]'hk).toNat ∧ (s[k]'hk).toNat ≤ 90)) : Turned s (k + 1) C := fun j hj => by
  rw [h j hj]
  by_cases e : j = k
  · subst e; rw [if_neg (by omega), if_pos (by omega), lowB_same hc]
  · by_cases e2 : j < k
    · rw [if_pos e2, if_pos (by omega)]
    · rw [if_neg e2, if_neg (by omega)]
theorem Turned.set {s : ByteArray} {k : Nat} {C : Array Value} (h : Turned s k C) (hk : k < s.size) (hc : 65 ≤ (s[k]'hk).toNat ∧ (s[k]'hk).toNat ≤ 90) : Turned s (k + 1) (C.setIfInBounds k (.int .u8 (((s[k]'hk).toNat : Int) + 32))) := fun j hj => by
  have hsz : k < C.size := by
    have := h k hk
    rcases Nat.lt_or_ge k C.size with h' | h'
    · exact h'
    · rw [Array.getElem?_eq_none h'] at this; cases this
  by_cases e : j = k
  · subst e
    rw [if_pos (by omega), lowB_up hc]
    simp [hsz]
  · rw [Array.getElem?_setIfInBounds_ne (by omega), h j hj]
    by_cases e2 : j < k
    · rw [if_pos e2, if_pos (by omega)]
    · rw [if_neg e2, if_neg (by omega)]
theorem Turned.rd {s : ByteArray} {k g : Nat} {C : Array Value} {W : World} {t : TypeId} {fr : Nat × Nat} (h : Turned s k C) (hk : s.size ≤ k) (hb : W.heap[g]? = some (.cells C t fr)) : Rd W (some ⟨g, 0, none⟩) (u8s (lowL (bytes s))) := fun j v hv => by
  refine ⟨_, rfl, blk_lt hb, ?_⟩
  have hj : j < s.size := by
    have := (List.getElem?_eq_some_iff.1 hv).1
    simpa [u8s, lowL_length, bytes_length] using this
  rw [show (⟨g, 0, none⟩ : Addr).add j = ⟨g, j, none⟩ by simp [Addr.add]; intro h; exact h.symm, blk_cell hb, h j hj, if_pos (by omega), ← hv]
  have hj' : j < (bytes s).length := by rw [bytes_length]; exact hj
  simp only [u8s, lowL, List.getElem?_map, List.getElem?_eq_getElem hj', Option.map_some]
  exact congrArg (fun x : UInt8 => some (Value.int .u8 ((lowB x).toNat : Int))) (bytes_at s j hj hj').symm

end Go.Proofs.YtdinnpjplgkffaaGreatDoor
