/-
  Walk: search in a set of constraints, at whatever order and whatever test are handed in. No condition.
-/
import Derived.Test.YtdinnpjplgkffaaGreatDoorS2
namespace Go.Proofs.YtdinnpjplgkffaaGreatDoor
open Go.ChangeShapes Go.WideShapes Go.ChangeAt Go.RowKit

section
variable {α : Type} [Inhabited α]
theorem toList_get! (d : Array α) (i : Nat) : d.toList[i]! = d[i]! := by
  by_cases h : i < d.size
  · rw [getElem!_pos d i h, getElem!_pos d.toList i (by simpa using h)]
    simp
  · rw [getElem!_neg d i h, getElem!_neg d.toList i (by simpa using h)]
theorem ret_w {a b : Value} (h : a = b) : Ending.returned a = .returned b := by rw [h]
def FoundPost (b : Bool) (w : World) (e : Ending) (w' : World) : Prop := ∃ v, e = .returned (.tuple #[v, .bool b]) ∧ Below w.heap.size w w'
set_option maxRecDepth 100000 in
set_option maxHeartbeats 2000000 in
theorem search_any (enc : α → Value) (h1 : Go.Proofs.OneCell enc) (sv : Value) (cft : α → Int) (hit : α → Bool) (w0 : World)
    (hC : ∀ W, Below w0.heap.size w0 W → ∀ x, Calls Tryz.prog 57 #[enc x, sv] W fun e w' => e = .returned (.int .i64 (cft x)) ∧ ∃ q os, w' = Go.Sort.grow (W.drewN q) os)
    (hM : ∀ W, Below w0.heap.size w0 W → ∀ x, Calls Tryz.prog 58 #[enc x, sv] W (Ret (.bool (hit x)) W))
    (wb : World) (c blk off cap : Nat) (d : Array α) (w : World) (hR : RowP enc w0 wb c blk off cap d w) (hblk : w0.heap.size ≤ blk) (hne : c ≠ blk) (hsz : d.size ≤ 2147483647) (h0 : 0 < d.size)
    (hmono : ∀ a b, a ≤ b → b < d.size → cft d[b]! < 0 → cft d[a]! < 0) :
    Calls Tryz.prog 122 #[.pointer (some ⟨c, 0, none⟩), sv, .func (.func 57) #[] #[], .func (.func 58) #[] #[]] w fun e w' => FoundPost (searchL d.toList cft hit) w e w' ∧ RowP enc w0 wb c blk off cap d w' := by
  have HR := Lib.hid hR
  have cc := hR.cell
  have eg : ∀ args w, (callFunc 57 args).run Tryz.prog w = .ok (.enter 57 args) w := enters_of Tryz.func57 (by kernel_rfl) rfl
  have hcon := Go.Proofs.Any.slices_BinarySearchFunc laidSearch enc h1 sv cft 57 #[] blk off cap d w eg (fun m os dk _ x => hC _ (below_sortWorld hblk hR.hb hR.old m dk os) x) hR.hH hR.hb (by omega) hmono
  change Calls Tryz.prog 123 _ _ _ at hcon
  have hcl : d.toList.countP (fun x => decide (cft x < 0)) ≤ d.size := by
    have := List.countP_le_length (p := fun x => decide (cft x < 0)) (l := d.toList)
    simpa using this
  have hsl : searchL d.toList cft hit = ((decide (d.toList.countP (fun x => decide (cft x < 0)) < d.size) && decide (cft d[d.toList.countP (fun x => decide (cft x < 0))]! = 0)) || hit (if d.toList.countP (fun x => decide (cft x < 0)) = 0 then d[0]! else d[d.toList.countP (fun x => decide (cft x < 0)) - 1]!)) := by
    unfold searchL
    rw [toList_get!, toList_get!, toList_get!, Array.length_toList]
  rw [hsl]
  generalize hk : d.toList.countP (fun x => decide (cft x < 0)) = k at *
  generalize hf : (decide (k < d.size) && decide (cft d[k]! = 0)) = fin at *
  have hB : ∀ (q : World), (∃ w1, Go.Proofs.SW enc w blk off d w1 ∧ q = w1) → RowP enc w0 wb c blk off cap d q ∧ Below w.heap.size w q := by
    rintro q ⟨w1, ⟨n, os, rfl⟩, rfl⟩
    refine ⟨hR.sorted hblk hne n d rfl os, ?_⟩
    rw [show Go.Proofs.sortWorld enc w blk off n d os = Go.Sort.grow (w.drewN n) os by
      unfold Go.Proofs.sortWorld
      rw [Go.Sort.putRow_self _ _ _ _ _ (fun j hj => by rw [Go.Sort.cell?_ahead]; exact hR.hH j hj)]
      rfl]
    refine ⟨rfl, rfl, rfl, ?_, fun k hk => ?_⟩
    · rw [Go.Sort.size_grow]; exact Nat.le_add_right _ _
    · exact Go.Sort.heap_grow_old _ _ hk
  have HB := Lib.hid hB
  have HCon := Lib.hid hcon
  have HF := Lib.hid hf
  have hz : (d.size : Int) ≠ 0 := by omega
  have hz1 : ((d.size : Int) == 0) = false := by rw [beq_eq_false_iff_ne]; omega
  clear hcon eg hC hsl hk hf hB hmono h1 hR hz
  cases fin
  rotate_left
  · have hkl : k < d.size := by
      have := HF.out
      rw [Bool.and_eq_true, decide_eq_true_eq] at this
      exact this.1
    clear HF
    rw [Bool.true_or]
    go_enter Tryz.func122, Tryz.ntmps122
    go_wp2_with fail
    refine HCon.out.mono ?_
    rintro e w1 ⟨rfl, hsw⟩
    have HR1 := Lib.hid (HB.out w1 ⟨w1, hsw, rfl⟩)
    clear hsw cc HCon HB
    have cc := HR1.out.1.cell
    have ck := (HR1.out.1.hH k hkl).1
    have hk1 : (k : Int) < (d.size : Int) := by omega
    go_wp2
    go_ret2
    exact ⟨⟨_, rfl, HR1.out.2⟩, HR1.out.1⟩
  · rw [Bool.false_or]
    clear HF
    have hMx := fun W h => hM W h (if k = 0 then d[0]! else d[k - 1]!)
    by_cases hk0 : k = 0
    · subst hk0
      rw [if_pos rfl] at hMx ⊢
      obtain ⟨x, hx⟩ : ∃ x, d[0]! = x := ⟨_, rfl⟩
      rw [hx] at hMx ⊢
      have HMx := Lib.hid hMx
      have HX := Lib.hid hx
      clear hMx hM hx
      go_enter Tryz.func122, Tryz.ntmps122
      go_wp2_with fail
      refine HCon.out.mono ?_
      rintro e w1 ⟨rfl, hsw⟩
      have HR1 := Lib.hid (HB.out w1 ⟨w1, hsw, rfl⟩)
      clear hsw cc HCon HB
      have cc := HR1.out.1.cell
      have ck := (HR1.out.1.hH 0 h0).1
      rw [Nat.add_zero] at ck
      have hk1 : (0 : Int) < (d.size : Int) := by omega
      rw [HX.out] at ck
      cases hh : hit x
      all_goals
        rw [hh] at HMx
        have HMx := Lib.hid HMx.out
        have HH := Lib.hid hh
        clear hh
        go_wp2_with ((with_reducible refine (HMx.out _ HR1.out.1.old).mono ?_); rintro e w2 ⟨rfl, hb2⟩)
        go_ret2
        exact ⟨⟨_, ret_w (by rw [HH.out]; rfl), HR1.out.2.trans (hb2.mono HR1.out.2.size)⟩, HR1.out.1.next hb2⟩
    · rw [if_neg hk0] at hMx ⊢
      have HMx := Lib.hid hMx
      clear hMx hM
      have hk2 : k - 1 < d.size := by omega
      have hk3 : ((k : Int) == 0) = false := by rw [beq_eq_false_iff_ne]; omega
      obtain ⟨k, rfl⟩ : ∃ j, k = j + 1 := ⟨k - 1, by omega⟩
      simp only [Nat.add_sub_cancel] at HMx hk2 ⊢
      obtain ⟨x, hx⟩ : ∃ x, d[k]! = x := ⟨_, rfl⟩
      rw [hx] at HMx ⊢
      have HX := Lib.hid hx
      clear hk0 hx
      go_enter Tryz.func122, Tryz.ntmps122
      go_wp2_with fail
      refine HCon.out.mono ?_
      rintro e w1 ⟨rfl, hsw⟩
      have HR1 := Lib.hid (HB.out w1 ⟨w1, hsw, rfl⟩)
      clear hsw cc HCon HB
      have cc := HR1.out.1.cell
      have ck := (HR1.out.1.hH k hk2).1
      have hk1 : (k : Int) < (d.size : Int) := by omega
      have e1 : IntKind.i64.wrap (((k + 1 : Nat) : Int) - 1) = (k : Int) := by rw [show (((k + 1 : Nat) : Int)) - 1 = k by omega]; exact IntWalk.i64_in _ (by omega)
      rw [HX.out] at ck
      cases hh : hit x
      all_goals
        rw [hh] at HMx
        have HMx := Lib.hid HMx.out
        have HH := Lib.hid hh
        clear hh
        go_wp2_with ((with_reducible refine (HMx.out _ HR1.out.1.old).mono ?_); rintro e w2 ⟨rfl, hb2⟩)
        go_ret2
        exact ⟨⟨_, ret_w (by rw [HH.out]; rfl), HR1.out.2.trans (hb2.mono HR1.out.2.size)⟩, HR1.out.1.next hb2⟩
end
end Go.Proofs.YtdinnpjplgkffaaGreatDoor
