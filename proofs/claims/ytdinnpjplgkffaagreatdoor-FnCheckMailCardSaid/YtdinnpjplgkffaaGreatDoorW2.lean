/-
  Walk: spec.Labels: the labels of a text, which dots part. Texts of at most 2^31 bytes.
-/
import Derived.Test.YtdinnpjplgkffaaGreatDoorBase
import Derived.Test.YtdinnpjplgkffaaGreatDoorPlain
namespace Go.Proofs.YtdinnpjplgkffaaGreatDoor
open Go.RowKit

/-- The labels as texts. -/
def labelsB (l : List UInt8) : List ByteArray := (splitDot l).map ofBytes
def strs (bs : List ByteArray) : List Value := bs.map Value.string
theorem strs_length (bs : List ByteArray) : (strs bs).length = bs.length := by simp [strs]
theorem strs_one (bs : List ByteArray) : ∀ u ∈ strs bs, u.oneCell' = true := by
  intro u hu
  obtain ⟨b, _, rfl⟩ := List.mem_map.1 hu
  rfl
theorem splitDot_length_le : ∀ l : List UInt8, (splitDot l).length ≤ l.length + 1
  | [] => by simp [splitDot]
  | c :: r => by
    have ih := splitDot_length_le r
    unfold splitDot
    split
    · simp; omega
    · split <;> (simp_all; try omega)

/-- What holds behind k rounds: 'done' are whole labels, the bytes from 'fr' on to k have no dot. -/
def LabInv (l : List UInt8) (k fr : Nat) (done : List ByteArray) : Prop :=
  fr ≤ k ∧ labelsB l = done ++ labelsB (l.drop fr) ∧ (∀ c ∈ (l.drop fr).take (k - fr), c ≠ 46) ∧ done.length ≤ k
theorem LabInv.start (l : List UInt8) : LabInv l 0 0 [] := ⟨Nat.le_refl _, by simp, by simp, Nat.le_refl _⟩
theorem take_drop_succ {l : List UInt8} {k fr : Nat} (h : fr ≤ k) (hk : k < l.length) : (l.drop fr).take (k + 1 - fr) = (l.drop fr).take (k - fr) ++ [l[k]] := by
  rw [show k + 1 - fr = (k - fr) + 1 by omega, List.take_succ_eq_append_getElem (by rw [List.length_drop]; omega)]
  simp only [List.getElem_drop, show fr + (k - fr) = k by omega]
theorem LabInv.other {l : List UInt8} {k fr : Nat} {done : List ByteArray} (h : LabInv l k fr done) (hk : k < l.length) (hc : l[k] ≠ 46) : LabInv l (k + 1) fr done := by
  obtain ⟨h1, h2, h3, h4⟩ := h
  refine ⟨by omega, h2, ?_, by omega⟩
  rw [take_drop_succ h1 hk]
  intro c hc'
  rcases List.mem_append.1 hc' with h | h
  · exact h3 c h
  · simp at h; rw [h]; exact hc
theorem LabInv.dot {l : List UInt8} {k fr : Nat} {done : List ByteArray} (h : LabInv l k fr done) (hk : k < l.length) (hc : l[k] = 46) :
    LabInv l (k + 1) (k + 1) (done ++ [ofBytes ((l.drop fr).take (k - fr))]) := by
  obtain ⟨h1, h2, h3, h4⟩ := h
  refine ⟨Nat.le_refl _, ?_, by simp, by simp; omega⟩
  rw [h2, List.append_assoc]
  congr 1
  have e : l.drop fr = (l.drop fr).take (k - fr) ++ 46 :: l.drop (k + 1) := by
    conv => lhs; rw [← List.take_append_drop (k - fr) (l.drop fr)]
    rw [List.drop_drop, show fr + (k - fr) = k by omega, ← hc, List.getElem_cons_drop]
  conv => lhs; rw [e]
  unfold labelsB
  rw [splitDot_at _ _ h3]
  simp
theorem LabInv.stop {l : List UInt8} {k fr : Nat} {done : List ByteArray} (h : LabInv l k fr done) (hk : k = l.length) : labelsB l = done ++ [ofBytes (l.drop fr)] := by
  obtain ⟨h1, h2, h3, _⟩ := h
  rw [h2]
  congr 1
  rw [List.take_of_length_le (by rw [List.length_drop]; omega)] at h3
  unfold labelsB
  rw [splitDot_noDot _ h3]
  rfl
theorem bytes_at' (s : ByteArray) (k : Nat) (h : k < s.size) {h' : k < (bytes s).length} : (bytes s)[k] = s[k] := by
  have := bytes_get s k h
  rw [List.getElem?_eq_getElem h'] at this
  exact Option.some.inj this
theorem extract_ofBytes (s : ByteArray) (a b : Nat) : s.extract a b = ofBytes (((bytes s).drop a).take (b - a)) := bytes_inj (by rw [bytes_ofBytes, bytes_extract])

/-- The labels lie in a row of the call's own. -/
def LabPost (w : World) (l : List UInt8) (e : Ending) (w' : World) : Prop :=
  ∃ v, e = .returned v ∧ w'.ownsRow w.heap.size 9 1 v (labelsB l).length (strs (labelsB l)) ∧ Below w.heap.size w w'

set_option maxHeartbeats 1000000 in
theorem labels_any (s : ByteArray) (hs : s.size ≤ 2147483647) (w : World) :
    Calls Tryz.prog 24 #[.string s] w (LabPost w (bytes s)) := by
  have hlen := Lib.hid (bytes_length s)
  have hmax : (2147483648 : Nat) ≤ maxLen := by unfold maxLen; omega
  obtain ⟨i0, hi, hz0, hz1, hz2⟩ := info_parts info_string
  have I0 : Aside (LabInv (bytes s) 0 0 []) := LabInv.start _
  go_enter Tryz.func24, Tryz.ntmps24
  go_wp2
  go_loopg [3, 4, 5] s.size (fun kx v fr i wr => ∃ (k f : Nat) (done : List ByteArray), k ≤ s.size ∧ s.size - k ≤ kx ∧ f ≤ k ∧ i = .int .i64 k ∧ fr = .int .i64 f ∧ Aside (LabInv (bytes s) k f done) ∧
    wr.ownsRow w.heap.size 9 1 v done.length (strs done) ∧ Below w.heap.size w wr)
  case atStart => exact ⟨0, 0, [], by omega, by omega, by omega, rfl, rfl, I0, World.ownsRow_made w #[] 0 (Nat.le_refl _) (by omega) rfl, (Below.refl _ _).alloc (Nat.le_refl _) _⟩
  case round =>
    clear I0
    obtain ⟨k, f, done, hk, hg, hf, rfl, rfl, A, hown, hb⟩ := hrel
    have hsz := hb.size
    have hdl : done.length ≤ k := A.out.2.2.2
    by_cases hlt : k < s.size
    · by_cases hdot : s[k] = 46
      · have hd : ((s[k].toNat : Int) == 46) = true := by rw [hdot]; rfl
        have A2 : Aside (LabInv (bytes s) (k + 1) (k + 1) (done ++ [s.extract f k])) := by
          have := A.out.dot (by rw [hlen.out]; exact hlt) (by rw [bytes_at' s k hlt]; exact hdot)
          rw [extract_ofBytes]; exact this
        have hex : (done ++ [s.extract f k]).length = done.length + 1 := by simp
        have HEX := Lib.hid hex
        clear A hdot hex
        go_wp2_with (at_builtin; refine wpList_append_own _ rfl _ _ 22 rfl w.heap.size 9 i0 _ 1 16 Tryz.underlying22 hi hz0 hz1 hz2 rfl (by decide) _ _ _ rfl (hown.alloc _) ⟨wr.heap.size, 0, none⟩ 1 1 [.string (s.extract f k)] rfl rfl ?c1 ?c2 ?c3 ?c4 ?c5 ?_)
        case c1 =>
          intro j u hj
          match j, hj with
          | 0, hj => simp at hj; subst hj; simp [Addr.add]
        case c2 => intro u hu; simp at hu; subst hu; rfl
        case c3 => omega
        case c4 => omega
        case c5 => simp; omega
        intro v' w1 hown' hgrow _
        have hb1 : Below w.heap.size w w1 := (hb.alloc hsz _).grown hgrow (by simp; omega) (fun k hk => (hown.lt k hk).1)
        have hown2 : w1.ownsRow w.heap.size 9 1 v' (done ++ [s.extract f k]).length (strs (done ++ [s.extract f k])) := by
          rw [HEX.out]; simpa [strs] using hown'
        clear hown' hgrow hown hb
        go_wp2
        go_roundg (s.size - (k + 1))
        case measure => omega
        case rel => exact ⟨k + 1, k + 1, _, by omega, by omega, by omega, by go_num, by go_num, A2, hown2, hb1⟩
      · have hd : ((s[k].toNat : Int) == 46) = false := by
          simp only [beq_eq_false_iff_ne]
          intro h
          exact hdot (UInt8.toNat_inj.1 (by have : (46 : UInt8).toNat = 46 := rfl; omega))
        have A2 : Aside (LabInv (bytes s) (k + 1) f done) := A.out.other (by rw [hlen.out]; exact hlt) (by rw [bytes_at' s k hlt]; exact hdot)
        clear A hdot
        go_wp2
        go_roundg (s.size - (k + 1))
        case measure => omega
        case rel => exact ⟨k + 1, f, done, by omega, by omega, by omega, by go_num, rfl, A2, hown, hb⟩
    · have HL : Aside (labelsB (bytes s) = done ++ [s.extract f s.size]) := by
        have := A.out.stop (by rw [hlen.out]; omega)
        rw [extract_ofBytes, List.take_of_length_le (by rw [List.length_drop, bytes_length]; omega)]
        exact this
      clear A
      go_wp2_with (at_builtin; refine wpList_append_own _ rfl _ _ 22 rfl w.heap.size 9 i0 _ 1 16 Tryz.underlying22 hi hz0 hz1 hz2 rfl (by decide) _ _ _ rfl (hown.alloc _) ⟨wr.heap.size, 0, none⟩ 1 1 [.string (s.extract f s.size)] rfl rfl ?d1 ?d2 ?d3 ?d4 ?d5 ?_)
      case d1 =>
        intro j u hj
        match j, hj with
        | 0, hj => simp at hj; subst hj; simp [Addr.add]
      case d2 => intro u hu; simp at hu; subst hu; rfl
      case d3 => omega
      case d4 => omega
      case d5 => simp; omega
      intro v' w1 hown' hgrow _
      have hb1 : Below w.heap.size w w1 := (hb.alloc hsz _).grown hgrow (by simp; omega) (fun k hk => (hown.lt k hk).1)
      have hown2 : w1.ownsRow w.heap.size 9 1 v' (labelsB (bytes s)).length (strs (labelsB (bytes s))) := by
        rw [HL.out]; simpa [strs] using hown'
      clear hown' hgrow hown hb HL
      go_wp2
      go_ret
      exact ⟨v', rfl, hown2, hb1⟩
end Go.Proofs.YtdinnpjplgkffaaGreatDoor
