/-
  Walks: dnsCompareTable, dnsCompare (names are compared from behind). Texts of at most 2^31 bytes.
-/
import Derived.Test.YtdinnpjplgkffaaGreatDoorPNames
namespace Go.Proofs.YtdinnpjplgkffaaGreatDoor
open Go.RowKit

/-- The table: a byte in lower case, a dot as nothing. -/
def tabF (j : Nat) : Nat := if j = 46 then 0 else low j
def tabC : Array Value := ((List.range 256).map fun j => Value.int .u8 (tabF j : Int)).toArray
theorem tabC_size : tabC.size = 256 := by simp [tabC]
theorem tabC_get (j : Nat) (h : j < 256) : tabC[j]? = some (.int .u8 (tabF j : Int)) := by
  simp [tabC, h]
theorem tabC_info : (Tryz.prog.info? 130).map (fun i => i.size) = some tabC.size := by
  rw [tabC_size]; kernel_rfl
theorem tabC_one : tabC.all (fun v => v.oneCell') = true := by
  rw [Array.all_eq_true]
  intro j hj
  have e := tabC_get j (by rw [tabC_size] at hj; exact hj)
  rw [Array.getElem?_eq_getElem hj] at e
  rw [Option.some.inj e]
  rfl
theorem below_row {B : Nat} {a w : World} (h : Below B a w) {g : Nat} (hg : B ≤ g) (cs : Array Value) : Below B a (w.setRow g cs) :=
  h.trans ⟨rfl, rfl, rfl, by simp [World.setRow], fun k hk => by simp only [World.setRow, Array.getElem?_modify]; rw [if_neg (by omega)]⟩
/-- The table's zero value. -/
def zc256 : Array Value := ((List.replicate 256 (Value.int .u8 0))).toArray
set_option maxRecDepth 100000 in
theorem zv256 (w : World) : (zeroValue 130).run Tryz.prog w = .ok (.agg Tryz.zeroCells130) w := by kernel_rfl
theorem zeroCells_size : Tryz.zeroCells130.size = 256 := by kernel_rfl

def TabInv (k : Nat) (C : Array Value) : Prop := C.size = 256 ∧ ∀ j, j < k → C[j]? = some (.int .u8 (low j : Int))
theorem TabInv.set {k : Nat} {C : Array Value} (h : TabInv k C) (hk : k < 256) (u : Int) (hu : u = (low k : Int)) : TabInv (k + 1) (C.setIfInBounds k (.int .u8 u)) := by
  subst hu
  refine ⟨by simp [h.1], fun j hj => ?_⟩
  by_cases e : j = k
  · subst e; simp [h.1, hk]
  · rw [Array.getElem?_setIfInBounds_ne (by omega)]; exact h.2 j (by omega)
theorem TabInv.done {C : Array Value} (h : TabInv 256 C) : C.setIfInBounds 46 (.int .u8 0) = tabC := by
  refine Array.ext ?_ fun j h1 h2 => ?_
  · simp [h.1, tabC_size]
  · have hj : j < 256 := by simpa [tabC_size] using h2
    have e1 := tabC_get j hj
    rw [Array.getElem?_eq_getElem h2] at e1
    have e1 := Option.some.inj e1
    rw [e1]
    unfold tabF
    by_cases e : j = 46
    · subst e; simp
    · rw [if_neg e]
      have := h.2 j hj
      rw [← Array.getElem?_setIfInBounds_ne (xs := C) (i := 46) (a := .int .u8 0) (by omega), Array.getElem?_eq_getElem h1] at this
      exact Option.some.inj this

set_option maxRecDepth 100000 in
set_option maxHeartbeats 4000000 in
theorem table_any (w : World) : Calls Tryz.prog 69 #[] w fun e w' => e = .returned (.agg tabC) ∧ Below w.heap.size w w' ∧ w'.drawn = w.drawn := by
  have hzv := zv256
  go_enter Tryz.func69, Tryz.ntmps69
  go_wp2_with fail
  clear hzv
  go_loopg [1] 256 (fun kx i wr => ∃ (k : Nat) (C : Array Value), k ≤ 256 ∧ 256 - k ≤ kx ∧ i = .int .i64 k ∧ Aside (TabInv k C) ∧ wr.heap[w.heap.size]? = some (.cells C 130 (0, 0)) ∧ Below w.heap.size w wr ∧ Aside (wr.drawn = w.drawn))
  case atStart => exact ⟨0, _, by omega, by omega, rfl, ⟨zeroCells_size, fun j hj => by omega⟩, blk_new _ _, Below.one _ _, rfl⟩
  case round =>
    obtain ⟨k, C, hk, hg, rfl, T, hblk, hb, hd⟩ := hrel
    have hsz := T.out.1
    by_cases hlt : k < 256
    · obtain ⟨old, hold⟩ : ∃ v, C[k]? = some v := ⟨_, Array.getElem?_eq_getElem (by omega)⟩
      have hcell := blk_cell hblk k
      rw [hold] at hcell
      have hfree : wr.frozen? ⟨w.heap.size, k, none⟩ = false := by simp [World.frozen?, hblk]
      clear hold hsz
      have hwrap : IntKind.u8.wrap (k : Int) = (k : Int) := by rw [IntWalk.u8_in _ (by omega)]
      by_cases hc : 65 ≤ k ∧ k ≤ 90
      · have T2 := Lib.hid (T.out.set hlt ((k : Int) + 32) (by unfold low; rw [if_pos hc]; omega))
        have hblk2 := Lib.hid (blk_set hblk k (.int .u8 ((k : Int) + 32)))
        have hb2 := Lib.hid (hb.setCell (p := ⟨w.heap.size, k, none⟩) (Nat.le_refl _) (.int .u8 ((k : Int) + 32)))
        obtain ⟨hc1, hc2⟩ := hc
        clear T hblk hb
        go_wp2
        go_roundg (256 - (k + 1))
        case measure => omega
        case rel => exact ⟨k + 1, _, by omega, by omega, by go_num, T2.out, hblk2.out, hb2.out, (show _ = _ from hd.out)⟩
      · have T2 := Lib.hid (T.out.set hlt (k : Int) (by unfold low; rw [if_neg hc]))
        have hblk2 := Lib.hid (blk_set hblk k (.int .u8 (k : Int)))
        have hb2 := Lib.hid (hb.setCell (p := ⟨w.heap.size, k, none⟩) (Nat.le_refl _) (.int .u8 (k : Int)))
        have hc' : k < 65 ∨ (65 ≤ k ∧ decide ((k : Int) ≤ 90) = false) := by simp; omega
        clear T hblk hb hc
        rcases hc' with hc | ⟨hc, hc'⟩
        all_goals
          go_wp2
          go_roundg (256 - (k + 1))
          case measure => omega
          case rel => exact ⟨k + 1, _, by omega, by omega, by go_num, T2.out, hblk2.out, hb2.out, (show _ = _ from hd.out)⟩
    · obtain rfl : k = 256 := by omega
      obtain ⟨old, hold⟩ : ∃ v, C[46]? = some v := ⟨_, Array.getElem?_eq_getElem (by omega)⟩
      have hcell := blk_cell hblk 46
      rw [hold] at hcell
      have hfree : wr.frozen? ⟨w.heap.size, 46, none⟩ = false := by simp [World.frozen?, hblk]
      have hblk2 := blk_set hblk 46 (.int .u8 0)
      rw [T.out.done] at hblk2
      have hb2 := Lib.hid (hb.setCell (p := ⟨w.heap.size, 46, none⟩) (Nat.le_refl _) (.int .u8 0))
      have hblk3 := Lib.hid hblk2
      have hb3 := Lib.hid (below_row hb2.out (Nat.le_refl _) tabC)
      clear T hblk hb hold hsz hblk2 hb2
      go_wp2_with (first | (refine wpList_load_row rfl 130 _ rfl w.heap.size rfl 130 tabC (0, 0) _ hblk3.out Tryz.underlying130 rfl tabC_info ?_) | (refine wpList_store_row rfl 130 _ _ rfl w.heap.size tabC rfl rfl 130 tabC hblk3.out tabC_info rfl tabC_one ?_))
      refine bodyPost_ret (v := .agg tabC) (results_cell_row rfl _ _ w.heap.size 130 tabC (0, 0) _ rfl (setRow_heap _ _ _ _ _ _ hblk3.out) Tryz.underlying130 rfl tabC_info) rfl ⟨rfl, hb3.out, (show _ = _ from hd.out)⟩

/-- One list of numbers against another one, from the head. -/
def cmpN : List Nat → List Nat → Int
  | [], [] => 0
  | [], _ :: _ => -1
  | _ :: _, [] => 1
  | x :: xs, y :: ys => if x < y then -1 else if y < x then 1 else cmpN xs ys
/-- A name from behind, as it is compared. -/
def key (l : List UInt8) : List Nat := (l.map fun c => tabF c.toNat).reverse
def dnsCmp (a b : List UInt8) : Int := cmpN (key a) (key b)
theorem key_take {s : ByteArray} {m : Nat} (h : m < s.size) : key ((bytes s).take (m + 1)) = tabF (s[m]'h).toNat :: key ((bytes s).take m) := by
  have hl : m < (bytes s).length := by rw [bytes_length]; exact h
  unfold key
  rw [List.take_succ_eq_append_getElem hl, bytes_at s m h hl]
  simp
  rfl
theorem tabF_lt (n : Nat) (h : n < 256) : tabF n < 256 := by
  unfold tabF; split
  · omega
  · exact low_lt n h

/-- A call that makes memory and draws nothing. -/
def GrowR (v : Value) (w : World) (e : Ending) (w' : World) : Prop := e = .returned v ∧ Below w.heap.size w w' ∧ w'.drawn = w.drawn
set_option maxRecDepth 100000 in
set_option maxHeartbeats 4000000 in
theorem dnsCompare_grow (a b : ByteArray) (ha : a.size ≤ 2147483647) (hb : b.size ≤ 2147483647) (w : World) :
    Calls Tryz.prog 57 #[.string a, .string b] w (GrowR (.int .i64 (dnsCmp (bytes a) (bytes b))) w) := by
  have HT := Lib.hid (fun W => table_any W)
  have hz : Hid (Tryz.zeroCells130.size = tabC.size) := by show _ = _; rw [zeroCells_size, tabC_size]
  have hzv := zv256
  go_enter Tryz.func57, Tryz.ntmps57
  go_wp2_with (first | (go_at_call 69; refine (HT.out _).mono ?_; rintro e w1 ⟨rfl, hb1, hd1⟩) | (refine wpList_store_row rfl 130 _ _ rfl _ tabC rfl rfl 130 _ (blk_new _ _) tabC_info hz.out tabC_one ?_))
  have hblk := setRow_heap _ w1.heap.size _ tabC _ _ (blk_new w1 (.cells Tryz.zeroCells130 130))
  have hbw := Lib.hid (below_row (hb1.alloc hb1.size (.cells Tryz.zeroCells130 130)) hb1.size tabC)
  have hcell := Lib.hid (fun (x : Nat) (hx : x < 256) => (blk_cell hblk x).trans (tabC_get x hx))
  have HDW := Lib.hid (show ((w1.alloc (.cells Tryz.zeroCells130 130)).setRow w1.heap.size tabC).drawn = w.drawn from hd1)
  clear hblk hd1
  generalize (w1.alloc (.cells Tryz.zeroCells130 130)).setRow w1.heap.size tabC = W at *
  go_loopg [6, 7] a.size (fun kx i j wr => W = wr ∧ ∃ q r : Int, -1 ≤ q ∧ q < a.size ∧ -1 ≤ r ∧ r < b.size ∧ q + 1 ≤ kx ∧ i = .int .i64 q ∧ j = .int .i64 r ∧ Aside (dnsCmp (bytes a) (bytes b) = cmpN (key ((bytes a).take (q + 1).toNat)) (key ((bytes b).take (r + 1).toNat))))
  case atStart =>
    refine ⟨rfl, (a.size : Int) - 1, (b.size : Int) - 1, by omega, by omega, by omega, by omega, by omega, rfl, rfl, ?_⟩
    show _ = _
    rw [show ((a.size : Int) - 1 + 1).toNat = a.size by omega, show ((b.size : Int) - 1 + 1).toNat = b.size by omega, List.take_of_length_le (by rw [bytes_length]; omega), List.take_of_length_le (by rw [bytes_length]; omega)]
    rfl
  case round =>
    obtain ⟨rfl, q, r, hq1, hq2, hr1, hr2, hg, rfl, rfl, A⟩ := hrel
    by_cases hqr : 0 ≤ q ∧ 0 ≤ r
    · obtain ⟨h1, h2⟩ := hqr
      obtain ⟨m, rfl⟩ := Int.eq_ofNat_of_zero_le h1
      obtain ⟨n, rfl⟩ := Int.eq_ofNat_of_zero_le h2
      have hm : m < a.size := by omega
      have hn : n < b.size := by omega
      have A2 : dnsCmp (bytes a) (bytes b) = cmpN (tabF (a[m]'hm).toNat :: key ((bytes a).take m)) (tabF (b[n]'hn).toNat :: key ((bytes b).take n)) := by
        rw [A.out, show ((m : Int) + 1).toNat = m + 1 by omega, show ((n : Int) + 1).toNat = n + 1 by omega, key_take hm, key_take hn]
      have c1 := hcell.out (a[m]'hm).toNat (a[m]'hm).toNat_lt
      have c2 := hcell.out (b[n]'hn).toNat (b[n]'hn).toNat_lt
      have t1 := (a[m]'hm).toNat_lt
      have t2 := (b[n]'hn).toNat_lt
      clear A
      generalize hx : tabF (a[m]'hm).toNat = x at *
      generalize hy : tabF (b[n]'hn).toNat = y at *
      clear hx hy
      simp only [cmpN] at A2
      rcases Nat.lt_trichotomy x y with h | h | h
      · rw [if_pos h] at A2
        have A3 := Lib.hid A2
        have hne : ((x : Int) == (y : Int)) = false := by simp; omega
        clear A2
        go_wp2
        go_ret
        exact ⟨ret_int A3.out.symm, hbw.out, HDW.out⟩
      · rw [if_neg (by omega), if_neg (by omega)] at A2
        have A3 : Aside (dnsCmp (bytes a) (bytes b) = cmpN (key ((bytes a).take ((m : Int) - 1 + 1).toNat)) (key ((bytes b).take ((n : Int) - 1 + 1).toNat))) := by
          show _ = _
          rw [A2, show ((m : Int) - 1 + 1).toNat = m by omega, show ((n : Int) - 1 + 1).toNat = n by omega]
        have hne : ((x : Int) == (y : Int)) = true := by simp; omega
        clear A2 h
        go_wp2
        go_roundg m
        case measure => omega
        case rel => exact ⟨rfl, (m : Int) - 1, (n : Int) - 1, by omega, by omega, by omega, by omega, by omega, rfl, rfl, A3⟩
      · rw [if_neg (by omega), if_pos h] at A2
        have A3 := Lib.hid A2
        have hne : ((x : Int) == (y : Int)) = false := by simp; omega
        clear A2
        go_wp2
        go_ret
        exact ⟨ret_int A3.out.symm, hbw.out, HDW.out⟩
    · have hc : (q = -1 ∧ r = -1) ∨ (q = -1 ∧ 0 ≤ r) ∨ (0 ≤ q ∧ r = -1) := by omega
      rcases hc with ⟨rfl, rfl⟩ | ⟨rfl, h2⟩ | ⟨h1, rfl⟩
      · have A3 : Hid (dnsCmp (bytes a) (bytes b) = 0) := by
          show _ = _
          rw [A.out]; simp [key, cmpN]
        clear A hqr
        go_wp2
        go_ret
        exact ⟨ret_int A3.out.symm, hbw.out, HDW.out⟩
      · obtain ⟨n, rfl⟩ := Int.eq_ofNat_of_zero_le h2
        have hn : n < b.size := by omega
        have A3 : Hid (dnsCmp (bytes a) (bytes b) = -1) := by
          show _ = _
          rw [A.out, show ((n : Int) + 1).toNat = n + 1 by omega, key_take hn]; simp [key, cmpN]
        clear A hqr
        go_wp2
        go_ret
        exact ⟨ret_int A3.out.symm, hbw.out, HDW.out⟩
      · obtain ⟨m, rfl⟩ := Int.eq_ofNat_of_zero_le h1
        have hm : m < a.size := by omega
        have A3 : Hid (dnsCmp (bytes a) (bytes b) = 1) := by
          show _ = _
          rw [A.out, show ((m : Int) + 1).toNat = m + 1 by omega, key_take hm]; simp [key, cmpN]
        clear A hqr
        go_wp2
        go_ret
        exact ⟨ret_int A3.out.symm, hbw.out, HDW.out⟩
theorem dnsCompare_any (a b : ByteArray) (ha : a.size ≤ 2147483647) (hb : b.size ≤ 2147483647) (w : World) :
    Calls Tryz.prog 57 #[.string a, .string b] w (Ret (.int .i64 (dnsCmp (bytes a) (bytes b))) w) :=
  (dnsCompare_grow a b ha hb w).mono fun _ _ h => ⟨h.1, h.2.1⟩
end Go.Proofs.YtdinnpjplgkffaaGreatDoor
