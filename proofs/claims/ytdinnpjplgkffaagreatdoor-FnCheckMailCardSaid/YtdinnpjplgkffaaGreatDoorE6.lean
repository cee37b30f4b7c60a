/-
  Walk: newDNSConstraints of excluded names: the map of their parents; what constraints are made to.
-/
import Derived.Test.YtdinnpjplgkffaaGreatDoorE5
namespace Go.Proofs.YtdinnpjplgkffaaGreatDoor
open Go.ChangeShapes Go.WideShapes Go.ChangeAt Go.RowKit Go.Maps

theorem size_ofB1 (l : List UInt8) : (ofBytes l).size = l.length := by rw [← bytes_length, bytes_ofBytes]
theorem trimL_length (l : List UInt8) : (trimL l).length ≤ l.length := by
  unfold trimL
  exact (List.dropWhile_suffix _).length_le
/-- A text's parent: nothing, or not. -/
theorem parent_size (s : ByteArray) : (ofBytes (trimL (bytes s))).size ≤ s.size := by
  rw [size_ofB1]
  have := trimL_length (bytes s)
  rw [bytes_length] at this
  exact this
set_option maxRecDepth 100000 in
set_option maxHeartbeats 8000000 in
theorem newDNS_excl (A : Option Addr) (n c : Nat) (L : List ByteArray) (w : World) (hn : n = L.length) (hl : L.length ≤ 2147483647) (hr : Rd w A (strs L)) (hne : L ≠ []) (hs : ∀ y ∈ L, IsS y) (hb : ∀ y ∈ L, NameBytes (bytes y)) :
    Calls Tryz.prog 41 #[.slice A n c, .bool false] w (DnsPost L w) := by
  subst hn
  have hp := List.length_pos_iff.2 hne
  obtain ⟨ad, rfl, -⟩ := hr 0 _ (strs_get hp)
  have HR := Lib.hid hr
  have HZ := Lib.hid hs
  have HY := Lib.hid hb
  have HNe := Lib.hid hne
  have HC := Lib.hid (clone_any ad _ c L w rfl hl hr)
  have h0 : ((L.length : Int) == 0) = false := by rw [beq_eq_false_iff_ne]; omega
  clear hr hs hp hne hb
  go_enter Tryz.func41, Tryz.ntmps41
  go_wp2
  go_loopg [18] L.length (fun kx s18 wr => w = wr ∧ ∃ k : Nat, k ≤ L.length ∧ L.length - k ≤ kx ∧ s18 = .int .i64 k)
  case atStart => exact ⟨rfl, 0, by omega, by omega, rfl⟩
  case round =>
    obtain ⟨rfl, k, hk, hg, rfl⟩ := hrel
    by_cases hlt : k < L.length
    · obtain ⟨ad1, he, h1l, hc1⟩ := HR.out k _ (strs_get hlt)
      obtain rfl := Option.some.inj he
      have hx := HZ.out _ (List.getElem_mem hlt)
      have e1 : (((L[k]).size : Int) == 0) = false := by rw [size_eq0, decide_eq_false (by have := hx.1; omega)]
      have hx2 := hx.2
      clear he hx
      generalize L[k] = y at hc1 e1 hx2
      go_wp2
      go_roundg (L.length - (k + 1))
      case measure => omega
      case rel => exact ⟨rfl, k + 1, by omega, by omega, by go_num⟩
    · clear HR
      go_wp2_with fail
      refine HC.out.mono ?_
      rintro e w1 ⟨v, rfl, hown, hb⟩
      obtain ⟨g, cap, rfl, W2, hW2, c2, hsap⟩ := held_start false 115 112 hown HNe.out HZ.out hl hb
      have HS := Lib.hid hsap
      have HW := Lib.hid hW2
      clear hown hb hsap HC hW2
      go_wp2_with (rw [← HW.out])
      refine HS.out.mono ?_
      rintro e w3 ⟨rfl, hH⟩
      have HH := Lib.hid hH
      obtain ⟨off, n3, cp, ks, hcell, hn3, hrd, hpr, -⟩ := hH.set.rd
      have HRk := Lib.hid hrd
      have hkl : ks.length ≤ 2147483647 := by
        obtain ⟨l, h1, -, h2⟩ := hpr
        have e1 := h1.length_eq
        have e2 := (prune_sublist StrEl.sub l).length_le
        rw [h2, List.length_map]
        rw [List.length_map] at e1
        omega
      have HKs : Hid (∀ y ∈ ks, y.size ≤ 2147483647 ∧ NameBytes (bytes y)) := fun y hy => by
        have hyL : y ∈ L := by
          obtain ⟨l, h1, -, rfl⟩ := hpr
          obtain ⟨x, hx, rfl⟩ := List.mem_map.1 hy
          exact h1.subset (List.mem_map.2 ⟨x, (prune_sublist _ _).subset hx, rfl⟩)
        exact ⟨(HZ.out y hyL).2, HY.out y hyL⟩
      have d2 := hH.c2
      have hmm := @run_makeMap Tryz.prog
      have hlt2 : w1.heap.size + 1 < w3.heap.size := World.block_lt_of_cell? _ _ hH.c0
      have hlt1 : w1.heap.size < w3.heap.size := by omega
      have HB4 := Lib.hid (Below.one w3 (.map #[] 0))
      have e2 := (HB4.out.cell (p := ⟨w1.heap.size + 1, 2, none⟩) hlt2).trans d2
      have e3 := (HB4.out.cell (p := ⟨w1.heap.size, 0, none⟩) hlt1).trans hcell
      have M0 : Aside ((w3.alloc (.map #[] 0)).ownsMap Tryz.prog 9 mapR w3.heap.size 0 (.map [])) := World.ownsMap_made _ _ _ _
      clear hH hpr hrd hcell d2 HS HZ HY HW c2
      subst hn3
      go_wp2
      go_loopg [53] ks.length (fun ky s53 wr => ∃ (k : Nat) (D : DataW Unit), k ≤ ks.length ∧ ks.length - k ≤ ky ∧ s53 = .int .i64 k ∧ Aside (wr.ownsMap Tryz.prog 9 mapR w3.heap.size k D) ∧ Aside (Below w3.heap.size w3 wr))
      case atStart => exact ⟨0, .map [], by omega, by omega, rfl, M0, HB4.out⟩
      case round =>
        clear M0 HB4 e2 e3
        obtain ⟨j, D, hj, hgj, rfl, HM, HV⟩ := hrel
        by_cases hjt : j < ks.length
        · obtain ⟨ad2, he2, h2l, hc2⟩ := (HRk.out.below HV.out) j _ (strs_get hjt)
          obtain rfl := Option.some.inj he2
          have hy := HKs.out _ (List.getElem_mem hjt)
          have HL := Lib.hid (fun W => strLower_any ks[j] hy.1 hy.2 W)
          clear he2 hy
          rw [add_mk] at hc2
          generalize ks[j] = y at hc2 HL
          go_wp2_with fail
          refine (HL.out _).mono ?_
          rintro e w5 ⟨s, rfl, hss, hb5⟩
          have HV5 := Lib.hid (HV.out.trans (hb5.mono HV.out.size))
          have HM5 : Hid (w5.ownsMap Tryz.prog 9 mapR w3.heap.size j D) := HM.out.kept (row := none) ⟨hb5.os, hb5.tape, hb5.output, hb5.size, fun k hk _ => hb5.block k hk⟩ (by simp)
          have HT := Lib.hid (trimFirst_any s hss w5)
          have hps := parent_size s
          obtain ⟨t, ht⟩ : ∃ t, ofBytes (trimL (bytes s)) = t := ⟨_, rfl⟩
          rw [ht] at HT hps
          have htm : t.size ≤ maxLen := by unfold maxLen; omega
          have HKey := Lib.hid (Go.WideMaps.keyOf_string_mk (P := Tryz.prog) Tryz.underlying9 htm)
          clear hb5 HL ht hc2 HM HV
          cases hte : (t.toList == [])
          · go_wp2_with (first
              | ((with_reducible refine HT.out.mono ?_); rintro e w6 ⟨rfl, rfl⟩)
              | (at_mapUpdate; refine wpList_mapUpdate_own _ rfl _ _ _ 110 rfl 9 9 map_keyed Tryz.underlying110 mapR w3.heap.size j D rfl HM5.out (by unfold maxLen; omega) _ _ _ rfl rfl HKey.out _ [] rfl ?_))
            intro w7 hown7 hgrow7
            have HM7 := Lib.hid hown7
            have HV7 := Lib.hid (HV5.out.grown hgrow7 HV5.out.size (fun k hk => by cases hk; exact Nat.le_refl _))
            clear hown7 hgrow7 HM5 HV5
            go_wp2
            go_roundg (ks.length - (j + 1))
            case measure => omega
            case rel => exact ⟨j + 1, _, by omega, by omega, by go_num, HM7.out, HV7.out⟩
          · go_wp2_with ((with_reducible refine HT.out.mono ?_); rintro e w6 ⟨rfl, rfl⟩)
            have HM6 := Lib.hid (HM5.out.mono (Nat.le_succ j))
            clear HM5
            go_wp2
            go_roundg (ks.length - (j + 1))
            case measure => omega
            case rel => exact ⟨j + 1, D, by omega, by omega, by go_num, HM6.out, HV5.out⟩
        · have HHr := Lib.hid (HH.out.next HV.out)
          obtain ⟨m, hm⟩ : ∃ m, Maps.size D = m := ⟨_, rfl⟩
          have hml := HM.out.size_le
          rw [hm] at hml
          obtain ⟨u3, c3⟩ := HHr.out.c3
          have f3 := HHr.out.f3
          have HMl := Lib.hid hm
          clear hm
          by_cases h00 : 0 < m
          · have F := Lib.hid (HHr.out.set3 (.map (some w3.heap.size))).done
            go_wp2_with (at_len; refine wpList_len_own _ rfl _ 110 rfl 9 9 Tryz.underlying110 mapR w3.heap.size j D rfl HM.out ?_; rw [HMl.out])
            go_ret
            exact F.out
          · have F := Lib.hid HHr.out.done
            go_wp2_with (at_len; refine wpList_len_own _ rfl _ 110 rfl 9 9 Tryz.underlying110 mapR w3.heap.size j D rfl HM.out ?_; rw [HMl.out])
            go_ret
            exact F.out
end Go.Proofs.YtdinnpjplgkffaaGreatDoor
