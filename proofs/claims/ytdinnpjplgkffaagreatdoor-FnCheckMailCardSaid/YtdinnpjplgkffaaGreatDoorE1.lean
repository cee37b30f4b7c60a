/-
  Walk: checkConstraints at names.
-/
import Derived.Test.YtdinnpjplgkffaaGreatDoorK2
import Derived.LoopN
import Derived.Test.YtdinnpjplgkffaaGreatDoorS3
import Derived.Test.YtdinnpjplgkffaaGreatDoorD3
import Derived.Test.YtdinnpjplgkffaaGreatDoorW10
namespace Go.Proofs.YtdinnpjplgkffaaGreatDoor
open Go.ChangeShapes Go.WideShapes Go.ChangeAt Go.RowKit

set_option maxRecDepth 100000 in
theorem method_query (a : Addr) (w : World) (s : String) (hs : s = (String.ofList (List.map Char.ofNat [108, 111, 111, 112, 46, 101, 120, 97, 109, 112, 108, 101, 47, 112, 117, 98, 45, 103, 48, 51, 49, 50, 57, 47, 112, 117, 98, 47, 110, 97, 109, 101, 99, 111, 110, 115, 116, 114, 97, 105, 110, 116, 115, 46, 113, 117, 101, 114, 121]))) : (method 295 108 (.pointer (some a)) s).run Tryz.prog w = .ok (121, .pointer (some a)) w := by
  subst hs
  kernel_rfl
/-- What a set of constraints says where it is asked: none where there are none. -/
def AskQ (w : World) (P : Value) (arg : Value) (p : Option Bool) : Prop :=
  (p = none ∧ P = .nilIface) ∨ ∃ g b, p = some b ∧ P = .iface 108 (.pointer (some ⟨g, 0, none⟩)) ∧ ∀ W, Below w.heap.size w W → Calls Tryz.prog 121 #[.pointer (some ⟨g, 0, none⟩), arg] W (FoundPost b W)
theorem AskQ.next {w w' : World} {P arg : Value} {p : Option Bool} (h : AskQ w P arg p) (k : Below w.heap.size w w') : AskQ w' P arg p := by
  rcases h with h | ⟨g, b, h1, h2, h3⟩
  · exact .inl h
  · exact .inr ⟨g, b, h1, h2, fun W hW => h3 W (k.trans (hW.mono k.size))⟩
/-- A check's outcome: nothing, or one of the two refusals. -/
def ChkPost (kind : ByteArray) (r : Bool) (w : World) (e : Ending) (w' : World) : Prop :=
  Below w.heap.size w w' ∧ ((r = false ∧ e = .returned .nilIface) ∨ (r = true ∧ ∃ v s, e = .returned v ∧ ErrAt w' v s ∧ (s = kind ++ { data := #[32, 105, 115, 32, 110, 111, 116, 32, 112, 101, 114, 109, 105, 116, 116, 101, 100, 32, 98, 121, 32, 97, 110, 121, 32, 99, 111, 110, 115, 116, 114, 97, 105, 110, 116] } ∨ s = kind ++ { data := #[32, 105, 115, 32, 101, 120, 99, 108, 117, 100, 101, 100, 32, 98, 121, 32, 97, 32, 99, 111, 110, 115, 116, 114, 97, 105, 110, 116] })))
def refB (p q : Option Bool) : Bool := p == some false || q == some true
set_option maxRecDepth 100000 in
set_option maxHeartbeats 4000000 in
theorem checkN_any (kind : ByteArray) (hk : kind.size ≤ 100) (P E arg : Value) (p q : Option Bool) (w : World) (hP : AskQ w P arg p) (hE : AskQ w E arg q) (r : Bool) (hr : refB p q = r) :
    Calls Tryz.prog 44 #[.agg #[.string kind, P, E], arg, arg] w (ChkPost kind r w) := by
  obtain ⟨W0, hW0⟩ : ∃ W, W = w.alloc (.cells #[.string kind, P, E] 66) := ⟨_, rfl⟩
  have hb0 : Below w.heap.size w W0 := by rw [hW0]; exact Below.one _ _
  have hk0 : W0.heap[w.heap.size]? = some (.cells #[.string kind, P, E] 66 (0, 0)) := by rw [hW0]; exact blk_new _ _
  have HN : Hid (∀ s W, Calls Tryz.prog 38 #[.string s] W (ErrPost s W)) := fun s W => errNew_any s W
  have HW := Lib.hid hW0
  have HB0 := Lib.hid hb0
  have HK0 := Lib.hid hk0
  have HR := Lib.hid hr
  clear hW0 hb0 hk0 hr
  rcases hP with ⟨rfl, rfl⟩ | ⟨g, b, rfl, rfl, hq⟩
  · rcases hE with ⟨rfl, rfl⟩ | ⟨g2, b2, rfl, rfl, hq2⟩
    · have F : Hid (ChkPost kind r w (.returned .nilIface) (w.alloc (.cells #[.string kind, .nilIface, .nilIface] 66))) := ⟨Below.one _ _, .inl ⟨HR.out.symm, rfl⟩⟩
      clear HR HW HB0 HK0
      go_enter Tryz.func44, Tryz.ntmps44
      go_wp2
      go_ret
      exact F.out
    · have c0 := blk_cell HK0.out 0
      have c1 := blk_cell HK0.out 1
      have c2 := blk_cell HK0.out 2
      simp at c0 c1 c2
      have HQ2 := Lib.hid (hq2 W0 HB0.out)
      clear hq2
      cases b2
      · go_enter Tryz.func44, Tryz.ntmps44
        go_wp2_with fail
        rw [← HW.out]
        rw [method_query _ _ _ (by kernel_rfl)]
        simp only [Result.andThen]
        rw [enters_of Tryz.func121 (by kernel_rfl) rfl, Oper.upon_enter]
        refine HQ2.out.mono ?_
        rintro e w1 ⟨v, rfl, hb1⟩
        have F : Hid (ChkPost kind r w (.returned .nilIface) w1) := ⟨HB0.out.trans (hb1.mono HB0.out.size), .inl ⟨HR.out.symm, rfl⟩⟩
        clear hb1 HR HQ2
        go_wp2
        go_ret
        exact F.out
      · go_enter Tryz.func44, Tryz.ntmps44
        go_wp2_with fail
        rw [← HW.out]
        rw [method_query _ _ _ (by kernel_rfl)]
        simp only [Result.andThen]
        rw [enters_of Tryz.func121 (by kernel_rfl) rfl, Oper.upon_enter]
        refine HQ2.out.mono ?_
        rintro e w1 ⟨v, rfl, hb1⟩
        have d0 := (hb1.cell (p := ⟨w.heap.size, 0, none⟩) (blk_lt HK0.out)).trans c0
        have HB1 := Lib.hid (HB0.out.trans (hb1.mono HB0.out.size))
        clear hb1 HQ2 c0 c1 c2
        go_wp2_with fail
        refine (HN.out _ _).mono ?_
        rintro e w2 ⟨u, rfl, he, hb2⟩
        have F : Hid (ChkPost kind r w (.returned u) w2) := ⟨HB1.out.trans (hb2.mono HB1.out.size), .inr ⟨HR.out.symm, u, _, rfl, he, .inr rfl⟩⟩
        clear he hb2 HR HN
        go_wp2
        go_ret
        exact F.out
  · have c0 := blk_cell HK0.out 0
    have c1 := blk_cell HK0.out 1
    have c2 := blk_cell HK0.out 2
    simp at c0 c1 c2
    have HQ := Lib.hid (hq W0 HB0.out)
    clear hq
    cases b
    · go_enter Tryz.func44, Tryz.ntmps44
      go_wp2_with fail
      rw [← HW.out]
      rw [method_query _ _ _ (by kernel_rfl)]
      simp only [Result.andThen]
      rw [enters_of Tryz.func121 (by kernel_rfl) rfl, Oper.upon_enter]
      refine HQ.out.mono ?_
      rintro e w1 ⟨v, rfl, hb1⟩
      have d0 := (hb1.cell (p := ⟨w.heap.size, 0, none⟩) (blk_lt HK0.out)).trans c0
      have HB1 := Lib.hid (HB0.out.trans (hb1.mono HB0.out.size))
      clear hb1 HQ c0 c1 c2
      go_wp2_with fail
      refine (HN.out _ _).mono ?_
      rintro e w2 ⟨u, rfl, he, hb2⟩
      have F : Hid (ChkPost kind r w (.returned u) w2) := ⟨HB1.out.trans (hb2.mono HB1.out.size), .inr ⟨HR.out.symm, u, _, rfl, he, .inl rfl⟩⟩
      clear he hb2 HR HN
      go_wp2
      go_ret
      exact F.out
    · rcases hE with ⟨rfl, rfl⟩ | ⟨g2, b2, rfl, rfl, hq2⟩
      · go_enter Tryz.func44, Tryz.ntmps44
        go_wp2_with fail
        rw [← HW.out]
        rw [method_query _ _ _ (by kernel_rfl)]
        simp only [Result.andThen]
        rw [enters_of Tryz.func121 (by kernel_rfl) rfl, Oper.upon_enter]
        refine HQ.out.mono ?_
        rintro e w1 ⟨v, rfl, hb1⟩
        have d2 := (hb1.cell (p := ⟨w.heap.size, 2, none⟩) (blk_lt HK0.out)).trans c2
        have F : Hid (ChkPost kind r w (.returned .nilIface) w1) := ⟨HB0.out.trans (hb1.mono HB0.out.size), .inl ⟨HR.out.symm, rfl⟩⟩
        clear hb1 HQ c0 c1 c2 HR
        go_wp2
        go_ret
        exact F.out
      · have hq3 := hq2
        clear hq2
        cases b2
        · go_enter Tryz.func44, Tryz.ntmps44
          go_wp2_with fail
          rw [← HW.out]
          rw [method_query _ _ _ (by kernel_rfl)]
          simp only [Result.andThen]
          rw [enters_of Tryz.func121 (by kernel_rfl) rfl, Oper.upon_enter]
          refine HQ.out.mono ?_
          rintro e w1 ⟨v, rfl, hb1⟩
          have d2 := (hb1.cell (p := ⟨w.heap.size, 2, none⟩) (blk_lt HK0.out)).trans c2
          have HB1 := Lib.hid (HB0.out.trans (hb1.mono HB0.out.size))
          have HQ2 := Lib.hid (hq3 w1 HB1.out)
          clear hb1 HQ c0 c1 c2 hq3
          go_wp2_with fail
          rw [method_query _ _ _ (by kernel_rfl)]
          simp only [Result.andThen]
          rw [enters_of Tryz.func121 (by kernel_rfl) rfl, Oper.upon_enter]
          refine HQ2.out.mono ?_
          rintro e w2 ⟨v2, rfl, hb2⟩
          have F : Hid (ChkPost kind r w (.returned .nilIface) w2) := ⟨HB1.out.trans (hb2.mono HB1.out.size), .inl ⟨HR.out.symm, rfl⟩⟩
          clear hb2 HQ2 HR
          go_wp2
          go_ret
          exact F.out
        · go_enter Tryz.func44, Tryz.ntmps44
          go_wp2_with fail
          rw [← HW.out]
          rw [method_query _ _ _ (by kernel_rfl)]
          simp only [Result.andThen]
          rw [enters_of Tryz.func121 (by kernel_rfl) rfl, Oper.upon_enter]
          refine HQ.out.mono ?_
          rintro e w1 ⟨v, rfl, hb1⟩
          have d0 := (hb1.cell (p := ⟨w.heap.size, 0, none⟩) (blk_lt HK0.out)).trans c0
          have d2 := (hb1.cell (p := ⟨w.heap.size, 2, none⟩) (blk_lt HK0.out)).trans c2
          have HB1 := Lib.hid (HB0.out.trans (hb1.mono HB0.out.size))
          have HQ2 := Lib.hid (hq3 w1 HB1.out)
          have hlt1 : w.heap.size < w1.heap.size := Nat.lt_of_lt_of_le (blk_lt HK0.out) hb1.size
          clear hb1 HQ c0 c1 c2 hq3
          go_wp2_with fail
          rw [method_query _ _ _ (by kernel_rfl)]
          simp only [Result.andThen]
          rw [enters_of Tryz.func121 (by kernel_rfl) rfl, Oper.upon_enter]
          refine HQ2.out.mono ?_
          rintro e w2 ⟨v2, rfl, hb2⟩
          have e0 := (hb2.cell (p := ⟨w.heap.size, 0, none⟩) hlt1).trans d0
          have HB2 := Lib.hid (HB1.out.trans (hb2.mono HB1.out.size))
          clear hb2 HQ2 d0 d2 hlt1
          go_wp2_with fail
          refine (HN.out _ _).mono ?_
          rintro e w3 ⟨u, rfl, he, hb3⟩
          have F : Hid (ChkPost kind r w (.returned u) w3) := ⟨HB2.out.trans (hb3.mono HB2.out.size), .inr ⟨HR.out.symm, u, _, rfl, he, .inr rfl⟩⟩
          clear he hb3 HR HN
          go_wp2
          go_ret
          exact F.out
end Go.Proofs.YtdinnpjplgkffaaGreatDoor
