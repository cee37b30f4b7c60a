/-
  Walks: spec.found, Any, Rule, laws.answered.
-/
import Derived.Test.YtdinnpjplgkffaaGreatDoorD3
namespace Go.Proofs.YtdinnpjplgkffaaGreatDoor
open Go.ChangeShapes Go.WideShapes Go.ChangeAt Go.RowKit

/-- Whether one of some is met: 1 for yes, 2 where it is not spoken of one. -/
def fnd (xs : List Int) : Int := if (1 : Int) ∈ xs then 1 else if (2 : Int) ∈ xs then 2 else 0
def fnd0 (xs : List Int) : Int := if (2 : Int) ∈ xs then 2 else 0
theorem fnd0_snoc (xs : List Int) (x : Int) : fnd0 (xs ++ [x]) = if x = 2 then 2 else fnd0 xs := by
  unfold fnd0
  by_cases h : x = 2
  · subst h; simp
  · have h2 : ¬ (2 : Int) = x := fun e => h e.symm
    simp [h2, h]
set_option maxHeartbeats 1000000 in
theorem found_any (A : Option Addr) (n c : Nat) (xs : List Int) (w : World) (hn : n = xs.length) (hl : xs.length ≤ 2147483647) (hr : Rd w A (ints xs)) :
    Calls Tryz.prog 23 #[.slice A n c] w fun e w' => e = .returned (.int .i64 (fnd xs)) ∧ w = w' := by
  subst hn
  have HR := Lib.hid hr
  clear hr
  go_enter Tryz.func23, Tryz.ntmps23
  go_wp2
  go_loopg [3, 8] xs.length (fun kx s3 s8 wr => w = wr ∧ ∃ k : Nat, s8 = .int .i64 k ∧ k ≤ xs.length ∧ xs.length - k ≤ kx ∧ s3 = .int .i64 (fnd0 (xs.take k)) ∧ Aside (∀ j (h : j < xs.length), j < k → xs[j] ≠ 1))
  case atStart => exact ⟨rfl, 0, rfl, by omega, by omega, rfl, fun j h h' => by omega⟩
  case round =>
    obtain ⟨rfl, k, rfl, hk, hg, rfl, Q⟩ := hrel
    by_cases hlt : k < xs.length
    · obtain ⟨ad, rfl, -, hc⟩ := HR.out k _ (ints_get hlt)
      have HS := Lib.hid (show fnd0 (xs.take (k + 1)) = if xs[k] = 2 then 2 else fnd0 (xs.take k) by rw [List.take_succ_eq_append_getElem hlt, fnd0_snoc])
      obtain ⟨x, hx⟩ : ∃ x, xs[k] = x := ⟨_, rfl⟩
      rw [hx] at hc HS
      have HX := Lib.hid hx
      clear hx
      by_cases h1 : x = 1
      · have F : Hid (fnd xs = 1) := by
          show _ = _
          unfold fnd
          rw [if_pos (by rw [← h1, ← HX.out]; exact List.getElem_mem hlt)]
        have h1' : (x == 1) = true := by rw [h1]; rfl
        clear h1 Q HS
        go_wp2
        go_ret
        exact ⟨ret_int F.out.symm, rfl⟩
      · have h1' : (x == 1) = false := by rw [beq_eq_false_iff_ne]; exact h1
        have Q2 : Aside (∀ j (h : j < xs.length), j < k + 1 → xs[j] ≠ 1) := fun j h hj => by
          by_cases e : j < k
          · exact Q.out j h e
          · have : j = k := by omega
            subst this; rw [HX.out]; exact h1
        by_cases h2 : x = 2
        · have h2' : (x == 2) = true := by rw [h2]; rfl
          have F : Hid (fnd0 (xs.take (k + 1)) = 2) := by
            show _ = _
            rw [HS.out, if_pos h2]
          clear h1 h2 Q HS
          go_wp2
          go_roundg (xs.length - (k + 1))
          case measure => omega
          case rel => exact ⟨rfl, k + 1, by go_num, by omega, by omega, by rw [F.out], Q2⟩
        · have h2' : (x == 2) = false := by rw [beq_eq_false_iff_ne]; exact h2
          have F : Hid (fnd0 (xs.take (k + 1)) = fnd0 (xs.take k)) := by
            show _ = _
            rw [HS.out, if_neg h2]
          clear h1 h2 Q HS
          go_wp2
          go_roundg (xs.length - (k + 1))
          case measure => omega
          case rel => exact ⟨rfl, k + 1, by go_num, by omega, by omega, by rw [F.out], Q2⟩
    · obtain rfl : k = xs.length := by omega
      have F : Hid (fnd0 (xs.take xs.length) = fnd xs) := by
        show _ = _
        unfold fnd0 fnd
        rw [List.take_length, if_neg (show ¬ (1 : Int) ∈ xs from fun h => by
          obtain ⟨j, hj, e⟩ := List.getElem_of_mem h
          exact Q.out j hj hj e)]
      clear Q
      go_wp2
      go_ret
      first
        | exact ⟨ret_int F.out, rfl⟩
        | exact ⟨ret_int (by rw [← F.out, List.take_length]), rfl⟩
end Go.Proofs.YtdinnpjplgkffaaGreatDoor
