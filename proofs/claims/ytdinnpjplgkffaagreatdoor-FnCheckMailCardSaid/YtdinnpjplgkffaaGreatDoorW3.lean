/-
  Walks: spec.NameOk (whether a text is the name of a host), laws.beyond. Texts of at most 2^31 bytes.
-/
import Derived.Test.YtdinnpjplgkffaaGreatDoorW1
import Derived.Test.YtdinnpjplgkffaaGreatDoorW2
namespace Go.Proofs.YtdinnpjplgkffaaGreatDoor
open Go.RowKit

def Ret (v : Value) (w : World) (e : Ending) (w' : World) : Prop := e = .returned v ∧ Below w.heap.size w w'

theorem labelsB_ne (l : List UInt8) : labelsB l ≠ [] := by
  intro h
  exact splitDot_ne l (List.map_eq_nil_iff.1 h)
theorem strs_get {bs : List ByteArray} {i : Nat} (h : i < bs.length) : (strs bs)[i]? = some (.string bs[i]) := by
  simp [strs, h]
theorem labelsB_mem {l : List UInt8} {i : Nat} (h : i < (labelsB l).length) : bytes ((labelsB l)[i]) ∈ splitDot l := by
  simp only [labelsB, List.getElem_map, bytes_ofBytes]
  exact List.getElem_mem _
theorem mem_size_le {l : List UInt8} : ∀ x ∈ splitDot l, x.length ≤ l.length := by
  induction l with
  | nil => simp [splitDot]
  | cons c r ih =>
    intro x hx
    unfold splitDot at hx
    split at hx
    · rcases List.mem_cons.1 hx with rfl | hx
      · simp
      · have := ih x hx; simp; omega
    · split at hx
      · rename_i h t heq
        rcases List.mem_cons.1 hx with rfl | hx
        · have := ih h (by rw [heq]; simp); simp; omega
        · have := ih x (by rw [heq]; simp [hx]); simp; omega
      · simp at hx; subst hx; simp
theorem labelsB_size {l : List UInt8} {i : Nat} (h : i < (labelsB l).length) : ((labelsB l)[i]).size ≤ l.length := by
  have := mem_size_le _ (labelsB_mem h)
  rw [bytes_length] at this
  exact this
theorem nameOk_no {l : List UInt8} {i : Nat} (h : i < (labelsB l).length) (hb : labelOk (bytes ((labelsB l)[i])) = false) : nameOk l = false := by
  unfold nameOk
  rw [Bool.and_eq_false_iff]
  left
  rw [Bool.and_eq_false_iff]
  left
  rw [List.all_eq_false]
  exact ⟨_, labelsB_mem h, by simp [hb]⟩
theorem labelOk_ne {l : List UInt8} (h : labelOk l = true) : 1 ≤ l.length ∧ l.length ≤ 63 := by
  unfold labelOk at h
  simp at h
  omega

/-- The last label's first byte, where all labels are such. -/
theorem nameOk_last {l : List UInt8} (h : ∀ i (hi : i < (labelsB l).length), labelOk (bytes ((labelsB l)[i])) = true) (x : ByteArray) (hx : (labelsB l)[(labelsB l).length - 1]? = some x) (h0 : 0 < x.size) :
    nameOk l = (l.length ≤ 200 && alpha (x[0]'h0).toNat) := by
  have hall : (splitDot l).all labelOk = true := by
    rw [List.all_eq_true]
    intro y hy
    obtain ⟨i, hi, rfl⟩ := List.getElem_of_mem hy
    have := h i (by simp [labelsB]; exact hi)
    simpa [labelsB, bytes_ofBytes] using this
  have hlast : (splitDot l).getLast? = some (bytes x) := by
    rw [List.getLast?_eq_getElem?]
    have e : (labelsB l).length = (splitDot l).length := by simp [labelsB]
    rw [e] at hx
    simp only [labelsB, List.getElem?_map, Option.map_eq_some_iff] at hx
    obtain ⟨y, hy, rfl⟩ := hx
    rw [hy, bytes_ofBytes]
  have hh := bytes_head x h0
  unfold nameOk
  rw [hall, hlast]
  cases hx' : bytes x with
  | nil => rw [hx'] at hh; simp at hh
  | cons c r =>
    rw [hx'] at hh
    simp at hh
    simp [hh]

set_option maxHeartbeats 1000000 in
theorem nameOk_any (s : ByteArray) (hs : s.size ≤ 2147483647) (w : World) :
    Calls Tryz.prog 16 #[.string s] w (Ret (.bool (nameOk (bytes s))) w) := by
  have hlen := Lib.hid (bytes_length s)
  go_enter Tryz.func16, Tryz.ntmps16
  go_wp2_with (go_at_call 24; refine (labels_any s hs _).mono ?_; rintro e w1 ⟨v, rfl, hown, hb⟩; obtain ⟨A, cap, rfl, hnc, hcap, hrd, -⟩ := Rd.own hown; clear hown)
  have hn : (labelsB (bytes s)).length ≤ s.size + 1 := by
    have := splitDot_length_le (bytes s)
    rw [hlen.out] at this
    simpa [labelsB] using this
  have hpos : 0 < (labelsB (bytes s)).length := List.length_pos_iff.2 (labelsB_ne _)
  go_loopg [11] (labelsB (bytes s)).length (fun kx i wr => w1 = wr ∧ ∃ k : Nat, k ≤ (labelsB (bytes s)).length ∧ (labelsB (bytes s)).length - k ≤ kx ∧ i = .int .i64 k ∧ Aside (∀ j (h : j < (labelsB (bytes s)).length), j < k → labelOk (bytes ((labelsB (bytes s))[j])) = true))
  case atStart => exact ⟨rfl, 0, by omega, by omega, rfl, fun j h h' => by omega⟩
  case round =>
    obtain ⟨rfl, k, hk, hg, rfl, Q⟩ := hrel
    have HR : Aside (Rd w1 A (strs (labelsB (bytes s)))) := hrd
    clear hrd
    by_cases hlt : k < (labelsB (bytes s)).length
    · obtain ⟨ad, rfl, had, hc⟩ := HR.out k _ (strs_get hlt)
      have hxs : ((labelsB (bytes s))[k]).size ≤ 2147483647 := by
        have := labelsB_size hlt; rw [hlen.out] at this; omega
      by_cases hok : labelOk (bytes ((labelsB (bytes s))[k])) = true
      · have Q2 : Aside (∀ j (h : j < (labelsB (bytes s)).length), j < k + 1 → labelOk (bytes ((labelsB (bytes s))[j])) = true) := fun j h hj => by
          by_cases e : j < k
          · exact Q.out j h e
          · have : j = k := by omega
            subst this; exact hok
        clear Q
        generalize (labelsB (bytes s))[k] = x at hc hxs hok
        have hcon := labelOk_any x hxs w1
        rw [hok] at hcon
        clear hok
        go_wp2_with (go_at_call 26; refine hcon.mono ?_; rintro e w' ⟨rfl, rfl⟩)
        go_roundg ((labelsB (bytes s)).length - (k + 1))
        case measure => omega
        case rel => exact ⟨rfl, k + 1, by omega, by omega, by go_num, Q2⟩
      · have hok' : labelOk (bytes ((labelsB (bytes s))[k])) = false := by simpa using hok
        have F : Aside (nameOk (bytes s) = false) := nameOk_no hlt hok'
        clear Q hok
        generalize (labelsB (bytes s))[k] = x at hc hxs hok'
        have hcon := labelOk_any x hxs w1
        rw [hok'] at hcon
        clear hok'
        go_wp2_with (go_at_call 26; refine hcon.mono ?_; rintro e w' ⟨rfl, rfl⟩)
        go_ret
        exact ⟨ret_bool F.out.symm, hb⟩
    · have hkn : k = (labelsB (bytes s)).length := by omega
      have hlt1 : (labelsB (bytes s)).length - 1 < (labelsB (bytes s)).length := by omega
      obtain ⟨ad, rfl, had, hc⟩ := HR.out ((labelsB (bytes s)).length - 1) _ (strs_get hlt1)
      have hok := Q.out _ hlt1 (by omega)
      have F := nameOk_last (l := bytes s) (fun i hi => Q.out i hi (by omega)) _ (List.getElem?_eq_getElem hlt1)
      rw [hlen.out] at F
      generalize (labelsB (bytes s))[(labelsB (bytes s)).length - 1] = x at hc hok F
      have hx0 : 0 < x.size := by have := (labelOk_ne hok).1; rw [bytes_length] at this; omega
      specialize F hx0
      have hcon := lower_any (x[0]'hx0) w1
      have hl := lowB_toNat (x[0]'hx0)
      unfold alpha at F
      rw [← hl] at F
      clear Q HR hok hkn hl hk
      generalize (lowB (x[0]'hx0)).toNat = m at F hcon
      have C : (s.size ≤ 200 ∧ 97 ≤ m ∧ m ≤ 122 ∧ Hid (nameOk (bytes s) = true)) ∨ (200 < s.size ∧ Hid (nameOk (bytes s) = false)) ∨ (s.size ≤ 200 ∧ m < 97 ∧ Hid (nameOk (bytes s) = false)) ∨ (s.size ≤ 200 ∧ 97 ≤ m ∧ 122 < m ∧ Hid (nameOk (bytes s) = false)) := by
        unfold Hid
        rw [F]
        simp
        omega
      clear F
      rcases C with ⟨c1, c2, c3, F2⟩ | ⟨c1, F2⟩ | ⟨c1, c2, F2⟩ | ⟨c1, c2, c3, F2⟩
      all_goals
        go_wp2_with (go_at_call 27; refine hcon.mono ?_; rintro e w' ⟨rfl, rfl⟩)
        go_ret
        refine ⟨ret_bool ?_, hb⟩
        rw [F2.out]
        try (simp; done)
        try (simp; omega)

def ints (xs : List Int) : List Value := xs.map (Value.int .i64)
theorem ints_get {xs : List Int} {i : Nat} (h : i < xs.length) : (ints xs)[i]? = some (.int .i64 xs[i]) := by simp [ints, h]

set_option maxHeartbeats 1000000 in
theorem beyond_any (xs : List Int) (A : Option Addr) (n c : Nat) (w : World) (hn : n = xs.length) (hl : n ≤ 100) (hr : Rd w A (ints xs)) :
    Calls Tryz.prog 5 #[.slice A n c] w fun e w' => e = .returned (.bool (xs.any (fun x => decide (1048576 < x)))) ∧ w = w' := by
  subst hn
  have HR : Aside (Rd w A (ints xs)) := hr
  clear hr
  go_enter Tryz.func5, Tryz.ntmps5
  go_wp2
  go_loopg [7] xs.length (fun kx i wr => w = wr ∧ ∃ k : Nat, k ≤ xs.length ∧ xs.length - k ≤ kx ∧ i = .int .i64 k ∧ Aside (∀ j (h : j < xs.length), j < k → ¬ 1048576 < xs[j]))
  case atStart => exact ⟨rfl, 0, by omega, by omega, rfl, fun j h h' => by omega⟩
  case round =>
    obtain ⟨rfl, k, hk, hg, rfl, Q⟩ := hrel
    by_cases hlt : k < xs.length
    · obtain ⟨ad, rfl, had, hc⟩ := HR.out k _ (ints_get hlt)
      by_cases hok : 1048576 < xs[k]
      · have F : Aside (xs.any (fun x => decide (1048576 < x)) = true) := by
          have : xs.any (fun x => decide (1048576 < x)) = true := by
            rw [List.any_eq_true]
            exact ⟨_, List.getElem_mem hlt, by simpa using hok⟩
          exact this
        clear Q HR
        generalize xs[k] = x at hc hok
        go_wp2
        go_ret
        exact ⟨ret_bool F.out.symm, rfl⟩
      · have Q2 : Aside (∀ j (h : j < xs.length), j < k + 1 → ¬ 1048576 < xs[j]) := fun j h hj => by
          by_cases e : j < k
          · exact Q.out j h e
          · have : j = k := by omega
            subst this; exact hok
        clear Q
        generalize xs[k] = x at hc hok
        go_wp2
        go_roundg (xs.length - (k + 1))
        case measure => omega
        case rel => exact ⟨rfl, k + 1, by omega, by omega, by go_num, Q2⟩
    · have F : Aside (xs.any (fun x => decide (1048576 < x)) = false) := by
        have : xs.any (fun x => decide (1048576 < x)) = false := by
          rw [List.any_eq_false]
          intro x hx
          obtain ⟨j, hj, rfl⟩ := List.getElem_of_mem hx
          have := Q.out j hj (by omega)
          simpa using this
        exact this
      clear Q HR
      go_wp2
      go_ret
      exact ⟨ret_bool F.out.symm, rfl⟩

theorem cast_lt (n : Nat) : decide ((1048576 : Int) < (n : Int)) = decide (1048576 < n) := by
  rw [decide_eq_decide]; omega
/-- laws.beyond at one, two, three sizes that the law lays in a new block. -/
theorem beyond1 (x : Nat) (b : Bool) (hb : decide (1048576 < x) = b) (W : World) :
    Calls Tryz.prog 5 #[.slice (some ⟨W.heap.size, 0, none⟩) 1 1] (W.alloc (.cells #[.int .i64 (x : Int)] 3)) fun e w' => e = .returned (.bool b) ∧ W.alloc (.cells #[.int .i64 (x : Int)] 3) = w' := by
  refine (beyond_any [(x : Int)] (some ⟨W.heap.size, 0, none⟩) 1 1 _ rfl (by omega) (Rd.new _ _ _)).mono ?_
  rintro e w' ⟨rfl, rfl⟩
  exact ⟨ret_bool (by rw [← hb]; simp [cast_lt]), rfl⟩
theorem beyond2 (x y : Nat) (b : Bool) (hb : (decide (1048576 < x) || decide (1048576 < y)) = b) (W : World) :
    Calls Tryz.prog 5 #[.slice (some ⟨W.heap.size, 0, none⟩) 2 2] (W.alloc (.cells #[.int .i64 (x : Int), .int .i64 (y : Int)] 3)) fun e w' => e = .returned (.bool b) ∧ W.alloc (.cells #[.int .i64 (x : Int), .int .i64 (y : Int)] 3) = w' := by
  refine (beyond_any [(x : Int), (y : Int)] (some ⟨W.heap.size, 0, none⟩) 2 2 _ rfl (by omega) (Rd.new _ _ _)).mono ?_
  rintro e w' ⟨rfl, rfl⟩
  exact ⟨ret_bool (by rw [← hb]; simp [cast_lt]), rfl⟩
theorem beyond3 (x y z : Nat) (b : Bool) (hb : (decide (1048576 < x) || decide (1048576 < y) || decide (1048576 < z)) = b) (W : World) :
    Calls Tryz.prog 5 #[.slice (some ⟨W.heap.size, 0, none⟩) 3 3] (W.alloc (.cells #[.int .i64 (x : Int), .int .i64 (y : Int), .int .i64 (z : Int)] 3)) fun e w' => e = .returned (.bool b) ∧ W.alloc (.cells #[.int .i64 (x : Int), .int .i64 (y : Int), .int .i64 (z : Int)] 3) = w' := by
  refine (beyond_any [(x : Int), (y : Int), (z : Int)] (some ⟨W.heap.size, 0, none⟩) 3 3 _ rfl (by omega) (Rd.new _ _ _)).mono ?_
  rintro e w' ⟨rfl, rfl⟩
  exact ⟨ret_bool (by rw [← hb]; simp [cast_lt, Bool.or_assoc]), rfl⟩
end Go.Proofs.YtdinnpjplgkffaaGreatDoor
