/-
  Walks: spec.Same, spec.Under, dnsHasSuffix (a name ends in a domain by whole labels, whatever the case), matchExactly. Texts of at most 2^31 bytes; dnsHasSuffix: the first one not empty.
-/
import Derived.Test.YtdinnpjplgkffaaGreatDoorW6
namespace Go.Proofs.YtdinnpjplgkffaaGreatDoor
open Go.RowKit

def sameL (a b : List UInt8) : Bool := decide (lowL a = lowL b)
def underL (name dom : List UInt8) : Bool := decide (dom.length + 1 < name.length) && (name[name.length - dom.length - 1]? == some 46) && sameL (name.drop (name.length - dom.length)) dom
def hasSufL (a b : List UInt8) : Bool :=
  decide (a.length ≤ b.length) && sameL a (b.drop (b.length - a.length)) && ((a.head? == some 46) || decide (a.length = b.length) || (b[b.length - a.length - 1]? == some 46))

set_option maxHeartbeats 1000000 in
theorem same_any (a b : ByteArray) (ha : a.size ≤ 2147483647) (hb : b.size ≤ 2147483647) (w : World) :
    Calls Tryz.prog 28 #[.string a, .string b] w (Ret (.bool (sameL (bytes a) (bytes b))) w) := by
  have h1 := Lib.hid (fun W => specLower_any a ha W)
  have h2 := Lib.hid (fun W => specLower_any b hb W)
  have e : Hid (((ofBytes (lowL (bytes a))).toList == (ofBytes (lowL (bytes b))).toList) = sameL (bytes a) (bytes b)) := by
    show _ = _
    simp only [ofBytes, ByteArray.toList_mk, sameL]
    rw [Bool.eq_iff_iff]; simp
  generalize ofBytes (lowL (bytes a)) = x at *
  generalize ofBytes (lowL (bytes b)) = y at *
  go_enter Tryz.func28, Tryz.ntmps28
  go_wp2_with (first | ((with_reducible refine (h1.out _).mono ?_); rintro e w1 ⟨rfl, hb1⟩) | ((with_reducible refine (h2.out _).mono ?_); rintro e w2 ⟨rfl, hb2⟩))
  go_ret
  exact ⟨ret_bool e.out, Below.next hb1 hb2⟩

set_option maxHeartbeats 1000000 in
theorem under_any (a b : ByteArray) (ha : a.size ≤ 2147483647) (hb : b.size ≤ 2147483647) (w : World) :
    Calls Tryz.prog 36 #[.string a, .string b] w (Ret (.bool (underL (bytes a) (bytes b))) w) := by
  have hu : underL (bytes a) (bytes b) = (decide (b.size + 1 < a.size) && ((bytes a)[a.size - b.size - 1]? == some 46) && sameL (bytes (a.extract (a.size - b.size) a.size)) (bytes b)) := by
    unfold underL
    rw [bytes_length, bytes_length, bytes_extract, List.take_of_length_le (by rw [List.length_drop, bytes_length]; omega)]
  by_cases h0 : b.size + 1 < a.size
  · have hi : a.size - b.size - 1 < a.size := by omega
    rw [bytes_get a _ hi] at hu
    by_cases hd : a[a.size - b.size - 1]'hi = 46
    · have e : underL (bytes a) (bytes b) = sameL (bytes (a.extract (a.size - b.size) a.size)) (bytes b) := by rw [hu, hd]; simp [h0]
      rw [e]; clear e hu
      have hd' : (((a[a.size - b.size - 1]'hi).toNat : Int) == 46) = true := by rw [hd]; rfl
      have hs := Lib.hid (fun W => same_any (a.extract (a.size - b.size) a.size) b (by simp [ByteArray.size_extract]; omega) hb W)
      clear hd
      have hsub : (a.size : Int) - (b.size : Int) = ((a.size - b.size : Nat) : Int) := by omega
      go_enter Tryz.func36, Tryz.ntmps36
      go_wp2_with (go_at_call 28; refine (hs.out _).mono ?_; rintro e w1 ⟨rfl, hb1⟩)
      go_ret
      exact ⟨ret_bool (by simp), hb1⟩
    · have e : underL (bytes a) (bytes b) = false := by rw [hu]; simp [hd]
      rw [e]; clear e hu
      have hd' : (((a[a.size - b.size - 1]'hi).toNat : Int) == 46) = false := by
        simp only [beq_eq_false_iff_ne]
        intro h
        exact hd (UInt8.toNat_inj.1 (by have : (46 : UInt8).toNat = 46 := rfl; omega))
      clear hd
      go_enter Tryz.func36, Tryz.ntmps36
      go_wp2
      go_ret
      exact ⟨ret_bool (by simp), Below.refl _ _⟩
  · have e : underL (bytes a) (bytes b) = false := by rw [hu]; simp [h0]
    rw [e]; clear e hu
    have h1 : decide ((1 : Int) < (a.size : Int) - (b.size : Int)) = false := by simp; omega
    go_enter Tryz.func36, Tryz.ntmps36
    go_wp2
    go_ret
    exact ⟨ret_bool (by simp), Below.refl _ _⟩

/-- Two bytes that are the same but for their case: how the code asks it. -/
theorem low_eq_cases (x y : Nat) : (low x = low y) ↔ (x = y ∨ (65 ≤ x ∧ x ≤ 90 ∧ y = x + 32) ∨ (65 ≤ y ∧ y ≤ 90 ∧ x = y + 32)) := by
  unfold low; split <;> split <;> omega
theorem lowB_eq_iff (c d : UInt8) : lowB c = lowB d ↔ low c.toNat = low d.toNat := by
  rw [← lowB_toNat, ← lowB_toNat]
  exact ⟨fun h => by rw [h], fun h => UInt8.toNat_inj.1 h⟩
/-- What has been seen: the bytes behind place q are the same but for their case. -/
def SufInv (a b : ByteArray) (q : Int) : Prop := ∀ j (h : j < a.size) (h' : j + (b.size - a.size) < b.size), q < (j : Int) → low (a[j]'h).toNat = low (b[j + (b.size - a.size)]'h').toNat
theorem SufInv.done {a b : ByteArray} {q : Int} (h : SufInv a b q) (hq : q < 0) (hl : a.size ≤ b.size) : sameL (bytes a) ((bytes b).drop (b.size - a.size)) = true := by
  unfold sameL lowL
  rw [decide_eq_true_eq]
  refine List.ext_getElem ?_ fun j h1 h2 => ?_
  · simp [bytes_length]; omega
  · have hj : j < a.size := by simpa [bytes_length] using h1
    have hj' : j + (b.size - a.size) < b.size := by omega
    simp only [List.getElem_map, List.getElem_drop]
    rw [bytes_at a j hj (by rw [bytes_length]; exact hj), bytes_at b (b.size - a.size + j) (by omega) (by rw [bytes_length]; omega)]
    refine (lowB_eq_iff _ _).2 ?_
    have := h j hj hj' (by omega)
    simp only [Nat.add_comm j] at this
    exact this
theorem SufInv.fail {a b : ByteArray} {m : Nat} (hm : m < a.size) (hm' : m + (b.size - a.size) < b.size) (hne : low (a[m]'hm).toNat ≠ low (b[m + (b.size - a.size)]'hm').toNat) : hasSufL (bytes a) (bytes b) = false := by
  have : sameL (bytes a) ((bytes b).drop (b.size - a.size)) = false := by
    unfold sameL lowL
    rw [decide_eq_false_iff_not]
    intro h
    have e := congrArg (fun l : List UInt8 => l[m]?) h
    simp only [List.getElem?_map, List.getElem?_drop] at e
    rw [bytes_get a m hm, show b.size - a.size + m = m + (b.size - a.size) by omega, bytes_get b _ hm'] at e
    simp at e
    exact hne ((lowB_eq_iff _ _).1 e)
  unfold hasSufL
  rw [bytes_length, bytes_length, this]
  simp

set_option maxHeartbeats 4000000 in
theorem hasSuffix_any (a b : ByteArray) (ha : a.size ≤ 2147483647) (hb : b.size ≤ 2147483647) (h0 : 0 < a.size) (w : World) :
    Calls Tryz.prog 58 #[.string a, .string b] w (Ret (.bool (hasSufL (bytes a) (bytes b))) w) := by
  by_cases hl0 : ¬ a.size ≤ b.size
  · have hl := hl0
    clear hl0
    have e : hasSufL (bytes a) (bytes b) = false := by unfold hasSufL; simp [bytes_length, hl]
    rw [e]; clear e
    go_enter Tryz.func58, Tryz.ntmps58
    go_wp2
    go_ret
    exact ⟨ret_bool rfl, Below.refl _ _⟩
  have hl : a.size ≤ b.size := by omega
  clear hl0
  have hdec : decide (b.size < a.size) = false := by simp; omega
  have I0 : Aside (SufInv a b ((a.size : Int) - 1)) := fun j h h' hq => by omega
  go_enter Tryz.func58, Tryz.ntmps58
  go_wp2
  go_loopg [7] a.size (fun kx i wr => ∃ q : Int, -1 ≤ q ∧ q < a.size ∧ q + 1 ≤ kx ∧ i = .int .i64 q ∧ Aside (SufInv a b q) ∧ Below w.heap.size w wr)
  case atStart => exact ⟨(a.size : Int) - 1, by omega, by omega, by omega, rfl, I0, Below.refl _ _⟩
  case round =>
    clear I0
    obtain ⟨q, hq1, hq2, hg, rfl, A, hbw⟩ := hrel
    by_cases hq : 0 ≤ q
    · obtain ⟨m, rfl⟩ := Int.eq_ofNat_of_zero_le hq
      have hm : m < a.size := by omega
      have hm' : m + (b.size - a.size) < b.size := by omega
      obtain ⟨n, hn⟩ : ∃ n, n = m + (b.size - a.size) := ⟨_, rfl⟩
      have hn' : n < b.size := by omega
      have hw : IntKind.i64.wrap ((m : Int) - ((a.size : Int) - (b.size : Int))) = (n : Int) := by rw [IntWalk.i64_in _ (by omega)]; omega
      have hx := (a[m]'hm).toNat_lt
      have hy := (b[n]'hn').toNat_lt
      by_cases hlow : low (a[m]'hm).toNat = low (b[n]'hn').toNat
      · have A2 : Aside (SufInv a b ((m : Int) - 1)) := fun j h h' hq' => by
          by_cases e : j = m
          · subst e; subst hn; exact hlow
          · exact A.out j h h' (by omega)
        rw [low_eq_cases] at hlow
        clear A hn
        generalize hxx : (a[m]'hm).toNat = x at *
        generalize hyy : (b[n]'hn').toNat = y at *
        have hc : ((x : Int) == (y : Int)) = true ∨ (((x : Int) == (y : Int)) = false ∧ 65 ≤ x ∧ x ≤ 90 ∧ (((y : Int) == (x : Int) + 97 - 65) = true)) ∨ (((x : Int) == (y : Int)) = false ∧ 65 ≤ y ∧ y ≤ 90 ∧ y < x ∧ (((x : Int) == (y : Int) + 97 - 65) = true)) := by
          simp; omega
        clear hlow
        rcases hc with hc | ⟨hc, hc1, hc2, hc3⟩ | ⟨hc, hc1, hc2, hc3, hc4⟩
        · clear hx hy
          go_wp2
          go_quiet (fail)
          clear hw
          go_wp2
          go_roundg m
          case measure => omega
          case rel => exact ⟨(m : Int) - 1, by omega, by omega, by omega, rfl, A2, below_drewN hbw _⟩
        · have hlt : ¬ y < x := by simp at hc3; omega
          have hle : x ≤ y := by omega
          go_wp2
          go_quiet (fail)
          clear hw
          go_wp2
          go_roundg m
          case measure => omega
          case rel => exact ⟨(m : Int) - 1, by omega, by omega, by omega, rfl, A2, below_drewN hbw _⟩
        · go_wp2
          go_quiet (fail)
          clear hw
          go_wp2
          go_roundg m
          case measure => omega
          case rel => exact ⟨(m : Int) - 1, by omega, by omega, by omega, rfl, A2, below_drewN hbw _⟩
      · have F : Aside (hasSufL (bytes a) (bytes b) = false) := by
          subst hn
          exact SufInv.fail hm hn' hlow
        rw [low_eq_cases] at hlow
        clear A hn
        generalize hxx : (a[m]'hm).toNat = x at *
        generalize hyy : (b[n]'hn').toNat = y at *
        have hne : ((x : Int) == (y : Int)) = false := by simp; omega
        have hc : (y < x ∧ (y < 65 ∨ (65 ≤ y ∧ decide ((y : Int) ≤ 90) = false) ∨ (65 ≤ y ∧ y ≤ 90 ∧ (((x : Int) == (y : Int) + 97 - 65) = false)))) ∨ (x ≤ y ∧ (x < 65 ∨ (65 ≤ x ∧ decide ((x : Int) ≤ 90) = false) ∨ (65 ≤ x ∧ x ≤ 90 ∧ (((y : Int) == (x : Int) + 97 - 65) = false)))) := by
          simp; omega
        clear hlow
        rcases hc with ⟨hc, hc1 | ⟨hc1, hc2⟩ | ⟨hc1, hc2, hc3⟩⟩ | ⟨hc, hc1 | ⟨hc1, hc2⟩ | ⟨hc1, hc2, hc3⟩⟩
        all_goals
          go_wp2
          go_quiet (fail)
          clear hw
          go_wp2
          go_ret
          exact ⟨ret_bool F.out.symm, below_drewN hbw _⟩
    · have S := A.out.done (by omega) hl
      have hh := bytes_head a h0
      have hR : hasSufL (bytes a) (bytes b) = ((some (a[0]'h0) == some 46) || decide (a.size = b.size) || ((bytes b)[b.size - a.size - 1]? == some 46)) := by
        unfold hasSufL
        rw [bytes_length, bytes_length, S, hh]
        simp [hl]
      clear A S hh
      have b46 : ∀ c : UInt8, c ≠ 46 → ((c.toNat : Int) == 46) = false := fun c hc => by
        simp only [beq_eq_false_iff_ne]
        intro h
        exact hc (UInt8.toNat_inj.1 (by have : (46 : UInt8).toNat = 46 := rfl; omega))
      by_cases hd0 : a[0]'h0 = 46
      · have F : Aside (hasSufL (bytes a) (bytes b) = true) := by
          have : hasSufL (bytes a) (bytes b) = true := by rw [hR, hd0]; simp
          exact this
        have hd0' : (((a[0]'h0).toNat : Int) != 46) = false := by rw [hd0]; rfl
        clear hd0 hR b46
        go_wp2
        go_ret
        exact ⟨ret_bool F.out.symm, hbw⟩
      · have hd0' : (((a[0]'h0).toNat : Int) != 46) = true := by simp [bne, b46 _ hd0]
        by_cases hs : a.size = b.size
        · have F : Aside (hasSufL (bytes a) (bytes b) = true) := by
            have : hasSufL (bytes a) (bytes b) = true := by rw [hR]; simp [hs]
            exact this
          have hs' : decide (a.size < b.size) = false := by simp; omega
          clear hd0 hR b46 hs
          go_wp2
          go_ret
          exact ⟨ret_bool F.out.symm, hbw⟩
        · have hlt : a.size < b.size := by omega
          have hi : b.size - a.size - 1 < b.size := by omega
          have hs2 : decide (a.size < b.size) = true := by simp; omega
          rw [bytes_get b _ hi] at hR
          by_cases hd1 : b[b.size - a.size - 1]'hi = 46
          · have F : Aside (hasSufL (bytes a) (bytes b) = true) := by
              have : hasSufL (bytes a) (bytes b) = true := by rw [hR, hd1]; simp
              exact this
            have hd1' : (((b[b.size - a.size - 1]'hi).toNat : Int) != 46) = false := by rw [hd1]; rfl
            clear hd0 hR b46 hs hd1
            go_wp2
            go_ret
            exact ⟨ret_bool F.out.symm, hbw⟩
          · have F : Aside (hasSufL (bytes a) (bytes b) = false) := by
              have : hasSufL (bytes a) (bytes b) = false := by rw [hR]; simp [hd0, hs, hd1]
              exact this
            have hd1' : (((b[b.size - a.size - 1]'hi).toNat : Int) != 46) = true := by simp [bne, b46 _ hd1]
            clear hd0 hR b46 hs hd1
            go_wp2
            go_ret
            exact ⟨ret_bool F.out.symm, hbw⟩

end Go.Proofs.YtdinnpjplgkffaaGreatDoor
