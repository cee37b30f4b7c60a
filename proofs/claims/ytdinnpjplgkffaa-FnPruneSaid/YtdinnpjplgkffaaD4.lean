/-
  Walks: slices.Index, slices.Contains of texts; ZZPruneDNS, impl.Prune.
-/
import Derived.Test.YtdinnpjplgkffaaD3
namespace Go.Proofs.Ytdinnpjplgkffaa
open Go.ChangeShapes Go.WideShapes Go.ChangeAt Go.RowKit

theorem toList_eq {a b : ByteArray} (h : a.toList = b.toList) : a = b := by
  rw [ByteArray.toList_eq, ByteArray.toList_eq] at h
  exact bytes_inj h
def IdxPost (x : ByteArray) (bs : List ByteArray) (w : World) (e : Ending) (w' : World) : Prop := ∃ r : Int, e = .returned (.int .i64 r) ∧ (0 ≤ r ↔ x ∈ bs) ∧ w = w'
set_option maxHeartbeats 1000000 in
theorem idx_any (A : Option Addr) (n c : Nat) (bs : List ByteArray) (x : ByteArray) (w : World) (hn : n = bs.length) (hl : bs.length ≤ 2147483647) (hr : Rd w A (strs bs)) :
    Calls Try.prog 19 #[.slice A n c, .string x] w (IdxPost x bs w) := by
  subst hn
  have HR := Lib.hid hr
  clear hr
  go_enter Try.func19, Try.ntmps19
  go_wp2
  go_loopg [8] bs.length (fun kx s8 wr => w = wr ∧ ∃ k : Nat, k ≤ bs.length ∧ bs.length - k ≤ kx ∧ s8 = .int .i64 k ∧ Aside (∀ y ∈ bs.take k, y ≠ x))
  case atStart => exact ⟨rfl, 0, by omega, by omega, rfl, fun x hx => by simp at hx⟩
  case round =>
    obtain ⟨rfl, k, hk, hg, rfl, Q⟩ := hrel
    by_cases hlt : k < bs.length
    · obtain ⟨ad1, rfl, h1l, hc1⟩ := HR.out k _ (strs_get hlt)
      by_cases he : bs[k] = x
      · have F : Hid (IdxPost x bs w (.returned (.int .i64 (k : Int))) w) := ⟨_, rfl, ⟨fun _ => by rw [← he]; exact List.getElem_mem hlt, fun _ => by omega⟩, rfl⟩
        have e1 : (x.toList == (bs[k]).toList) = true := by rw [he, beq_self_eq_true]
        generalize bs[k] = y at hc1 e1
        clear Q he
        go_wp2
        go_ret
        exact F.out
      · have Q2 : Aside (∀ y ∈ bs.take (k + 1), y ≠ x) := fun y hy => by
          rw [List.take_succ_eq_append_getElem hlt] at hy
          rcases List.mem_append.1 hy with h | h
          · exact Q.out y h
          · simp at h; rw [h]; exact he
        have e1 : (x.toList == (bs[k]).toList) = false := by
          rw [beq_eq_false_iff_ne]
          exact fun e => he (toList_eq e).symm
        generalize bs[k] = y at hc1 e1
        clear Q he
        go_wp2
        go_roundg (bs.length - (k + 1))
        case measure => omega
        case rel => exact ⟨rfl, k + 1, by omega, by omega, by go_num, Q2⟩
    · have F : Hid (IdxPost x bs w (.returned (.int .i64 (-1))) w) := ⟨_, rfl, ⟨fun h => absurd h (by omega), fun h => by
        have := Q.out x (by rw [List.take_of_length_le (by omega)]; exact h)
        exact absurd rfl this⟩, rfl⟩
      clear Q
      go_wp2
      go_ret
      exact F.out
set_option maxHeartbeats 1000000 in
theorem contains_any (A : Option Addr) (n c : Nat) (bs : List ByteArray) (x : ByteArray) (w : World) (hn : n = bs.length) (hl : bs.length ≤ 2147483647) (hr : Rd w A (strs bs)) (b : Bool) (hb : b = true ↔ x ∈ bs) :
    Calls Try.prog 10 #[.slice A n c, .string x] w fun e w' => e = .returned (.bool b) ∧ w = w' := by
  have HC := Lib.hid (idx_any A n c bs x w hn hl hr)
  clear hn hr
  go_enter Try.func10, Try.ntmps10
  go_wp2_with fail
  refine HC.out.mono ?_
  rintro e w1 ⟨r, rfl, hr, rfl⟩
  have e1 : decide (0 ≤ r) = b := by rw [Bool.eq_iff_iff, hb, decide_eq_true_eq, hr]
  clear hb hr HC
  go_wp2
  go_ret
  exact ⟨rfl, rfl⟩

/-! ### THE PRUNED ROW -/
def PrPost (bs : List ByteArray) (w : World) (e : Ending) (w' : World) : Prop := ∃ A n c ks, e = .returned (.slice A n c) ∧ n = ks.length ∧ (A = none → c = 0) ∧ Rd w' A (strs ks) ∧ PrunedOf bs ks ∧ Below w.heap.size w w'
theorem PrunedOf.length {bs ks : List ByteArray} (h : PrunedOf bs ks) : ks.length ≤ bs.length := by
  obtain ⟨l, h1, -, rfl⟩ := h
  rw [← h1.length_eq, List.length_map, List.length_map]
  exact (prune_sublist _ _).length_le
set_option maxRecDepth 100000 in
set_option maxHeartbeats 1000000 in
theorem zzPrune_any (A : Option Addr) (n c : Nat) (bs : List ByteArray) (w : World) (hn : n = bs.length) (hA : A = none → c = 0) (hl : bs.length ≤ 2147483647) (hr : Rd w A (strs bs)) (hs : ∀ x ∈ bs, IsS x) :
    Calls Try.prog 18 #[.slice A n c] w (PrPost bs w) := by
  subst hn
  have HA := Lib.hid hA
  have HR := Lib.hid hr
  have HS := Lib.hid hs
  clear hA hr hs
  go_enter Try.func18, Try.ntmps18
  go_wp2_with (at_builtin; refine wpList_copy_texts rfl (.const (.slice none 0 0)) (.tmp 4) rfl w.heap.size A bs.length c bs rfl rfl rfl HA.out HR.out hl (Nat.le_refl _) ?_)
  intro v w1 hown hb
  have hone := Below.one w1 (.cells #[v] 43)
  by_cases h0 : bs = []
  · subst h0
    obtain ⟨A1, c1, rfl, -, -, hA1, hrd⟩ := hown.rd
    have F : Hid (PrPost [] w (.returned (.slice A1 0 c1)) (w1.alloc (.cells #[.slice A1 0 c1] 43))) := ⟨A1, 0, c1, [], rfl, rfl, hA1, Rd.nil _ _, ⟨[], .nil, .nil, rfl⟩, hb.trans (hone.mono hb.size)⟩
    have HC := Lib.hid (sap_nil w1.heap.size A1 0 c1 (by omega) (w1.alloc (.cells #[.slice A1 0 c1] 43)) (by rw [blk_cell (blk_new w1 _)]; rfl))
    have cc : (w1.alloc (.cells #[.slice A1 0 c1] 43)).cell? ⟨w1.heap.size, 0, none⟩ = some (.slice A1 0 c1) := by rw [blk_cell (blk_new w1 _)]; rfl
    clear hown hb hrd hA1 HA HR HS hone
    go_wp2_with ((with_reducible refine HC.out.mono ?_); rintro e w2 ⟨rfl, rfl⟩)
    go_ret
    exact F.out
  · obtain ⟨g, cap, d, i0, hF⟩ := setS_start 43 hown h0 HS.out hb
    obtain rfl := hF.hv
    have hds : d.size = bs.length := by rw [← hF.hd, List.length_map, Array.length_toList]
    have HC := Lib.hid (sapS_any _ _ _ _ _ d _ hF.row hF.hg hF.hc hF.hne (by omega) hF.hcap)
    have HF := Lib.hid hF
    clear hF hown hb hone hds HA HR
    go_wp2_with fail
    refine HC.out.mono ?_
    rintro e w2 ⟨rfl, hp⟩
    obtain ⟨off, n, cp, ks, hcell, rfl, hrd, hpr, hbe⟩ := (setS_done HF.out hl h0 hp).rd
    have F : Hid (PrPost bs w (.returned (.slice (some ⟨g, off, none⟩) ks.length cp)) w2) := ⟨_, _, _, ks, rfl, rfl, fun e => (by cases e), hrd, hpr, hbe⟩
    clear hp hrd hpr hbe HC HF HS h0
    go_wp2
    go_ret
    exact F.out
set_option maxHeartbeats 1000000 in
theorem implPrune_any (A : Option Addr) (n c : Nat) (bs : List ByteArray) (w : World) (hn : n = bs.length) (hA : A = none → c = 0) (hl : bs.length ≤ 2147483647) (hr : Rd w A (strs bs)) (hs : ∀ x ∈ bs, IsS x) :
    Calls Try.prog 9 #[.slice A n c] w (PrPost bs w) := by
  subst hn
  have HA := Lib.hid hA
  have HR := Lib.hid hr
  have HC : Hid (∀ A n c W, n = bs.length → (A = none → c = 0) → Rd W A (strs bs) → Calls Try.prog 18 #[.slice A n c] W (PrPost bs W)) := fun A n c W h1 h2 h3 => zzPrune_any A n c bs W h1 h2 hl h3 hs
  clear hA hr hs
  go_enter Try.func9, Try.ntmps9
  go_wp2_with (at_builtin; refine wpList_copy_texts rfl (.const (.slice none 0 0)) (.tmp 3) rfl w.heap.size A bs.length c bs rfl rfl rfl HA.out HR.out hl (Nat.le_refl _) ?_)
  intro v w1 hown hb
  obtain ⟨A1, c1, rfl, -, -, hA1, hrd⟩ := hown.rd
  have H1 := Lib.hid (HC.out A1 _ c1 w1 rfl hA1 hrd)
  have HB := Lib.hid hb
  clear hown hb hA1 hrd HC HA HR
  go_wp2_with fail
  refine H1.out.mono ?_
  rintro e w2 ⟨A2, n2, c2, ks, rfl, rfl, hA2, hrd2, hpr, hb2⟩
  have HA2 := Lib.hid hA2
  have HR2 := Lib.hid hrd2
  have HP := Lib.hid hpr
  have HB2 := Lib.hid (HB.out.trans (hb2.mono HB.out.size))
  have hkl : ks.length ≤ 2147483647 := Nat.le_trans hpr.length hl
  clear hA2 hrd2 hpr hb2 H1
  go_wp2_with (at_builtin; refine wpList_copy_texts rfl (.const (.slice none 0 0)) (.tmp 5) rfl w.heap.size A2 ks.length c2 ks rfl rfl rfl HA2.out HR2.out hkl HB2.out.size ?_)
  intro v w3 hown hb
  obtain ⟨A3, c3, rfl, -, -, hA3, hrd⟩ := hown.rd
  have F : Hid (PrPost bs w (.returned (.slice A3 ks.length c3)) w3) := ⟨_, _, _, ks, rfl, rfl, hA3, hrd, HP.out, HB2.out.trans (hb.mono HB2.out.size)⟩
  clear hown hb hA3 hrd
  go_wp2
  go_ret
  exact F.out
end Go.Proofs.Ytdinnpjplgkffaa
