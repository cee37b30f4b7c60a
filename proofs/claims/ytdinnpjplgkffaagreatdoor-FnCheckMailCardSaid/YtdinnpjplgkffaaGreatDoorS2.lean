/-
  Walk: sortAndPrune at whatever order and subset test that are handed in. No condition.
-/
import Derived.Test.YtdinnpjplgkffaaGreatDoorS1
namespace Go.Proofs.YtdinnpjplgkffaaGreatDoor
open Go.ChangeShapes Go.WideShapes Go.ChangeAt Go.RowKit

section
variable {α : Type} [Inhabited α]
theorem RowP.held {enc : α → Value} {w0 wb W : World} {c blk off cap : Nat} {dk : Array α} (h : RowP enc w0 wb c blk off cap dk W) {n v r : Nat} {x y : α} (hn : dk.size = n) (hv : v < n) (hr : r < n) (hx : dk[v]! = x) (hy : dk[r]! = y) :
    W.cell? ⟨c, 0, none⟩ = some (.slice (some ⟨blk, off, none⟩) n cap) ∧ W.cell? ⟨blk, off + v, none⟩ = some (enc x) ∧ W.cell? ⟨blk, off + r, none⟩ = some (enc y) ∧ RowP enc w0 wb c blk off cap dk W := by
  subst hx hy hn
  exact ⟨h.cell, (h.hH v hv).1, (h.hH r hr).1, h⟩
set_option maxRecDepth 100000 in
set_option maxHeartbeats 2000000 in
theorem sap_any (enc : α → Value) (h1 : Go.Proofs.OneCell enc) (cf : α → α → Int) (hO : Go.Sort.SWO (Go.Proofs.ltOf cf)) (sub : α → α → Bool) (w0 : World)
    (hC : ∀ W, Below w0.heap.size w0 W → ∀ x y, Calls Tryz.prog 57 #[enc x, enc y] W fun e w' => e = .returned (.int .i64 (cf x y)) ∧ ∃ q os, w' = Go.Sort.grow (W.drewN q) os)
    (hS : ∀ W, Below w0.heap.size w0 W → ∀ x y, Calls Tryz.prog 58 #[enc x, enc y] W (Ret (.bool (sub x y)) W))
    (wb : World) (c blk off cap : Nat) (d : Array α) (w : World) (hR : RowP enc w0 wb c blk off cap d w) (hblk : w0.heap.size ≤ blk) (hc0 : w0.heap.size ≤ c) (hne : c ≠ blk) (hsz : d.size ≤ 2147483647) (hcap : d.size ≤ cap) :
    Calls Tryz.prog 56 #[.pointer (some ⟨c, 0, none⟩), .func (.func 57) #[] #[], .func (.func 58) #[] #[]] w (SapPost enc cf sub w0 wb c blk off cap d) := by
  have HR := Lib.hid hR
  have cc := hR.cell
  by_cases h2 : d.size < 2
  · have F : Hid (SapPost enc cf sub w0 wb c blk off cap d (.returned (.tuple #[])) w) := by
      refine ⟨rfl, d, ⟨rfl, fun _ _ => rfl, List.Perm.refl _⟩, fun i j _ _ _ => (by omega), ?_⟩
      rw [prune_small sub d h2]
      exact hR
    clear hC hS hO h1 hR HR
    go_enter Tryz.func56, Tryz.ntmps56
    go_wp2
    go_end0
    exact F.out
  have h2' : 2 ≤ d.size := by omega
  have eg : ∀ args w, (callFunc 57 args).run Tryz.prog w = .ok (.enter 57 args) w := enters_of Tryz.func57 (by kernel_rfl) rfl
  have hcon := Go.Proofs.Any.slices_SortFunc laidSort enc h1 cf hO 57 #[] blk off cap d w eg (fun m os dk hs x y => hC _ (below_sortWorld hblk hR.hb hR.old m dk os) x y) hR.hH hR.hb (by omega)
  change Calls Tryz.prog 68 _ _ _ at hcon
  have HCon := Lib.hid hcon
  have H1 := Lib.hid h1
  clear hcon eg hC hO h1 hR h2
  go_enter Tryz.func56, Tryz.ntmps56
  go_wp2_with fail
  refine HCon.out.mono ?_
  rintro e w1 ⟨rfl, d', n, os, hperm, hsort, hw1⟩
  have HP := Lib.hid hperm
  have HSo := Lib.hid hsort
  have hs' : d'.size = d.size := hperm.1
  have HR1 := Lib.hid (show RowP enc w0 wb c blk off cap d' w1 by rw [hw1]; exact HR.out.sorted hblk hne n d' hs' os)
  have HE := Lib.hid hs'
  clear hw1 hperm hsort HCon cc hs'
  have cc := HR1.out.cell
  rw [HE.out] at cc
  go_wp2_with fail
  go_loopg [6, 7] d.size (fun kx s6 s7 wr => ∃ (v r : Nat) (dk : Array α), s6 = .int .i64 ((v : Int) + 1) ∧ s7 = .int .i64 r ∧ v < r ∧ r ≤ d.size ∧ d.size - r ≤ kx ∧ Aside (RowP enc w0 wb c blk off cap dk wr) ∧ Aside (PruneAt sub d' v r dk))
  case atStart => exact ⟨0, 1, d', rfl, rfl, by omega, by omega, by omega, HR1.out, PruneAt.start sub d' (by have := HE.out; omega)⟩
  case round =>
    clear cc HR1 HR
    obtain ⟨v, r, dk, rfl, rfl, hvr, hrn, hg, HR, HA⟩ := hrel
    have hdk : dk.size = d.size := HA.out.size.trans HE.out
    have HD := Lib.hid hdk
    have cc := HR.out.cell
    rw [hdk] at cc
    have ff := HR.out.fr
    by_cases hlt : r < d.size
    · obtain ⟨x, hx⟩ : ∃ x, dk[v]! = x := ⟨_, rfl⟩
      obtain ⟨y, hy⟩ : ∃ y, dk[r]! = y := ⟨_, rfl⟩
      have HX := Lib.hid hx
      have HY := Lib.hid hy
      clear hx hy hdk
      have e1 : IntKind.i64.wrap ((v : Int) + 1 - 1) = (v : Int) := by rw [show (v : Int) + 1 - 1 = v by omega]; exact IntWalk.i64_in _ (by omega)
      have e2 : IntKind.i64.wrap (v : Int) = (v : Int) := IntWalk.i64_in _ (by omega)
      have hv0 : v < d.size := by omega
      have hv1 : (v : Int) < (d.size : Int) := by omega
      have hr1 : (r : Int) < (d.size : Int) := by omega
      have hSx := fun W h => hS W h x y
      cases hs : sub x y
      all_goals
        rw [hs] at hSx
        have HSx := Lib.hid hSx
        have HSub := Lib.hid hs
        clear hSx hs
        go_wp2_with fail
        go_region_held3 (fun W' => W'.cell? ⟨c, 0, none⟩ = some (.slice (some ⟨blk, off, none⟩) d.size cap) ∧ W'.cell? ⟨blk, off + v, none⟩ = some (enc x) ∧ W'.cell? ⟨blk, off + r, none⟩ = some (enc y) ∧ RowP enc w0 wb c blk off cap dk W')
          (first | exact RowP.held (HR.out.next ((Below.refl _ _).drew)) HD.out hv0 hlt HX.out HY.out | exact RowP.held (by assumption) HD.out hv0 hlt HX.out HY.out)
          (first | (go_split_ands; (with_reducible refine (HSx.out _ (RowP.old (by assumption))).mono ?_); rintro e wa ⟨rfl, hba⟩; have hsa := RowP.next (by assumption) hba))
        go_split_ands
      · have HW := Lib.hid (RowP.next (HR.out.next ((Below.refl _ _).drew)) (Below.refl _ _))
        have hf : wa.frozen? ⟨blk, off + (v + 1), none⟩ = false := (RowP.hH hsa (v + 1) (by rw [HD.out]; omega)).2
        have hd : wa.cell? ⟨blk, off + (v + 1), none⟩ = some (enc dk[v + 1]!) := (RowP.hH hsa (v + 1) (by rw [HD.out]; omega)).1
        have hv2 : (v : Int) + 1 < (d.size : Int) := by omega
        have HSA := Lib.hid hsa
        have e3 : ((v : Int) + 1).toNat = v + 1 := by omega
        have hv3 : (0 : Int) ≤ (v : Int) + 1 := by omega
        have hcl := H1.out.cells
        simp only [Value.cells] at hcl
        have hst := H1.out.store Tryz.prog
        clear HW hba hsa e1 e2
        go_wp2_with fail
        go_still_tail 13, (by kernel_rfl)
        change wpList _ _ _ _ _ wa.drew
        go_wp2
        go_roundg (d.size - (r + 1))
        case measure => omega
        case rel =>
          refine ⟨v + 1, r + 1, dk.setIfInBounds (v + 1) dk[r]!, by go_num, by go_num, by omega, by omega, by omega, ?_, HA.out.keep hvr (by have := HE.out; omega) (by rw [HX.out, HY.out]; exact HSub.out)⟩
          rw [HY.out]
          exact RowP.set (HSA.out.next ((Below.refl _ _).drew)) hblk hne (v + 1) (by rw [HD.out]; omega) y
      · have HSA := Lib.hid hsa
        clear hba hsa e1 e2
        go_wp2
        go_roundg (d.size - (r + 1))
        case measure => omega
        case rel => exact ⟨v, r + 1, dk, rfl, by go_num, by omega, by omega, by omega, HSA.out, HA.out.skip (by have := HE.out; omega) (by rw [HX.out, HY.out]; exact HSub.out)⟩
    · obtain rfl : r = d.size := by omega
      have hv1 : v + 1 ≤ d.size := by omega
      have hv2 : (v : Int) + 1 ≤ (cap : Int) := by omega
      have F := Lib.hid (HR.out.cut hc0 hne (prune sub d'.toList) (v + 1) (by omega) (HA.out.done (by rw [HE.out]; omega) (by rw [HE.out]; exact Nat.le_refl _)))
      go_wp2
      go_end0
      exact ⟨rfl, d', HP.out, HSo.out, F.out⟩
end
end Go.Proofs.YtdinnpjplgkffaaGreatDoor
