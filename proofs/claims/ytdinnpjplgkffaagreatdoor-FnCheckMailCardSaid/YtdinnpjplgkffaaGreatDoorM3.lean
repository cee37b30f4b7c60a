/-
  Walk: spec.LocalOk. Texts of at most 2^31 bytes.
-/
import Derived.Test.YtdinnpjplgkffaaGreatDoorM2
namespace Go.Proofs.YtdinnpjplgkffaaGreatDoor
open Go.RowKit

def atomP (x : ByteArray) : Prop := x.size ≠ 0 ∧ ∀ j (h : j < x.size), atomC (x[j]'h) = true
def localOk (l : List UInt8) : Prop := (∀ j (h : j < (labelsB l).length), atomP ((labelsB l)[j])) ∧ l.length ≤ 100
set_option maxHeartbeats 1000000 in
theorem localOk_any (s : ByteArray) (hs : s.size ≤ 2147483647) (w : World) (b : Bool) (hb : b = true ↔ localOk (bytes s)) :
    Calls Tryz.prog 15 #[.string s] w (Ret (.bool b) w) := by
  have HL := Lib.hid (fun W => labels_any s hs W)
  have HB : Hid (b = true ↔ (∀ j (h : j < (labelsB (bytes s)).length), atomP ((labelsB (bytes s))[j])) ∧ s.size ≤ 100) := by
    show _ ↔ _
    rw [hb]; unfold localOk; rw [bytes_length]
  have hlen : (labelsB (bytes s)).length ≤ 2147483648 := by
    have := labelsB_le (bytes s)
    rw [bytes_length] at this
    omega
  clear hb
  go_enter Tryz.func15, Tryz.ntmps15
  go_wp2_with fail
  refine (HL.out _).mono ?_
  rintro e w2 ⟨v, rfl, hown, hb2⟩
  obtain ⟨A1, c1, rfl, -, -, hr, -⟩ := Rd.own hown
  have HR := Lib.hid hr
  have HW := Lib.hid hb2
  clear hown hr HL hb2
  have hsz := fun j (h : j < (labelsB (bytes s)).length) => labelsB_size h
  rw [bytes_length] at hsz
  have HSZ := Lib.hid hsz
  clear hsz
  generalize labelsB (bytes s) = ps at *
  go_wp2
  go_loopg [9] ps.length (fun kx i wr => ∃ k : Nat, k ≤ ps.length ∧ ps.length - k ≤ kx ∧ i = .int .i64 k ∧ Aside (∀ j (h : j < ps.length), j < k → atomP ps[j]) ∧ Below w2.heap.size w2 wr)
  case atStart => exact ⟨0, by omega, by omega, rfl, fun j h h' => by omega, Below.refl _ _⟩
  case round =>
    obtain ⟨k, hk, hg, rfl, Q, hb⟩ := hrel
    have HW2 := Lib.hid (Below.next HW.out hb)
    by_cases hlt : k < ps.length
    · obtain ⟨ad1, rfl, h1l, hc1⟩ := (HR.out.below hb) k _ (strs_get hlt)
      have Q2 : Aside (atomP ps[k] → ∀ j (h : j < ps.length), j < k + 1 → atomP ps[j]) := fun hx j h hj => by
        by_cases e : j < k
        · exact Q.out j h e
        · have : j = k := by omega
          subst this; exact hx
      have N2 : Aside (¬ atomP ps[k] → b = false) := fun hn => by
        cases b
        · rfl
        · exact absurd ((HB.out.1 rfl).1 k hlt) hn
      have hys := HSZ.out k hlt
      clear Q
      generalize ps[k] = y at *
      by_cases hy0 : y.size = 0
      · have F := Lib.hid (N2.out fun h => h.1 hy0)
        have he : (y.toList == []) = true := by
          have : bytes y = [] := List.eq_nil_of_length_eq_zero (by rw [bytes_length]; exact hy0)
          rw [ByteArray.toList_eq]
          change (bytes y == []) = true
          rw [this]; rfl
        clear hy0 Q2 N2
        go_wp2
        go_ret
        exact ⟨ret_bool F.out.symm, HW2.out⟩
      have he : (y.toList == []) = false := by
        simp only [beq_eq_false_iff_ne, ne_eq]
        intro e
        apply hy0
        rw [ByteArray.toList_eq] at e
        rw [← bytes_length]
        change y.data.toList.length = 0
        rw [e]; rfl
      go_wp2
      obtain ⟨wi, rfl⟩ : ∃ wi : World, wi = wr := ⟨_, rfl⟩
      have HBW := Lib.hid hb
      clear hb
      go_loopg [5] y.size (fun ky i wj => ∃ pos : Nat, y.size - pos ≤ ky ∧ pos ≤ y.size ∧ i = .int .i64 pos ∧ Aside (∀ j (h : j < y.size), j < pos → atomC (y[j]'h) = true) ∧ Below wi.heap.size wi wj)
      case atStart => exact ⟨0, by omega, by omega, rfl, fun j h h' => by omega, Below.refl _ _⟩
      case round =>
        obtain ⟨pos, hgp, hpl, rfl, J, hbj⟩ := hrel
        by_cases hpos2 : pos < y.size
        · have HA := Lib.hid (fun W => atom_any (y[pos]'hpos2) W)
          cases hv : atomC (y[pos]'hpos2)
          · have F := Lib.hid (N2.out fun h => by have := h.2 pos hpos2; rw [hv] at this; cases this)
            rw [hv] at HA
            clear hv J Q2 N2
            go_wp2_with ((with_reducible refine (HA.out _).mono ?_); rintro e w4 ⟨rfl, hb4⟩)
            go_ret
            exact ⟨ret_bool F.out.symm, Below.next (Below.next HW2.out hbj) hb4⟩
          · have J2 : Aside (∀ j (h : j < y.size), j < pos + 1 → atomC (y[j]'h) = true) := fun j h hj => by
              by_cases e : j < pos
              · exact J.out j h e
              · have : j = pos := by omega
                subst this; exact hv
            rw [hv] at HA
            clear hv J
            go_wp2_with ((with_reducible refine (HA.out _).mono ?_); rintro e w4 ⟨rfl, hb4⟩)
            go_roundg (y.size - (pos + 1))
            case measure => omega
            case rel => exact ⟨pos + 1, by omega, by omega, by go_num, J2, Below.next hbj hb4⟩
        · have Q4 := Lib.hid (Q2.out ⟨hy0, fun j hj => J.out j hj (by omega)⟩)
          clear J Q2 N2
          go_wp2
          go_roundg (ps.length - (k + 1))
          case measure => omega
          case rel => exact ⟨k + 1, by omega, by omega, by go_num, Q4.out, Below.next HBW.out hbj⟩
    · have F : Hid (b = decide ((s.size : Int) ≤ 100)) := by
        show _ = _
        rw [Bool.eq_iff_iff, HB.out, decide_eq_true_eq]
        exact ⟨fun h => by have := h.2; omega, fun h => ⟨fun j hj => Q.out j hj (by omega), by omega⟩⟩
      clear Q
      go_wp2
      go_ret
      exact ⟨ret_bool F.out.symm, HW2.out⟩
end Go.Proofs.YtdinnpjplgkffaaGreatDoor
