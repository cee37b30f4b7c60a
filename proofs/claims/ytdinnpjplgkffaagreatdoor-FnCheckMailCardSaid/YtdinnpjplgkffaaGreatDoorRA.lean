/-
  Walks: query of constraints of mail addresses, ZZQueryMail, impl.QueryMail. Walks: ZZQueryMail, impl.QueryMail; checkConstraints at mail addresses. Walk: checkConstraints at mail addresses. Walk: parseMailboxes of one address. Walks: check of one mail address, ZZCheckMail, impl.CheckMail.
-/
import Derived.Test.YtdinnpjplgkffaaGreatDoorR2
import Derived.RegionTactic
import Derived.BigRegion
import Derived.Deep.RegionWith
namespace Go.Proofs.YtdinnpjplgkffaaGreatDoor
open Go.ChangeShapes Go.WideShapes Go.ChangeAt Go.RowKit Go.Maps

theorem zero_unit (w : World) : (zeroValue 79).run Tryz.prog w = .ok (.agg #[]) w := by kernel_rfl
theorem MapM.look {L : List ByteArray} {b n : Nat} {W : World} (h : MapM L b n W) (hs : mbSmall (mboxL L)) {x y : ByteArray} (hx : x.size ≤ maxLen) (hy : y.size ≤ maxLen) {q : Bool} (hq : q = true ↔ (x, y) ∈ mboxL L) :
    (Instr.lookup 77 (.map (some b)) (.agg #[.string x, .string y]) true).run Tryz.prog W = .ok (.tuple #[.agg #[], .bool q]) W := by
  obtain ⟨v, ps, hrun, hv⟩ := World.ownsMap.look_ok h mbKeyed Tryz.underlying77 (zero_unit W) unitElem_mk (mbKey x y hx hy)
  obtain ⟨rfl, -⟩ := unitElem_inv hv
  rw [hrun]
  have : Maps.has (mbSet (mboxL L)) (mbLit x y) = q := by
    rw [Bool.eq_iff_iff, mbSet_has hs hx hy, hq]
  rw [this]
set_option maxRecDepth 100000 in
set_option maxHeartbeats 4000000 in
theorem mailQuery_any (L : List ByteArray) (g : Nat) (W : World) (a x : ByteArray) (hC : MailC L g W) (hs : mbSmall (mboxL L)) (hL : TextsE (domsL L)) (h0 : ∀ y ∈ domsL L, 0 < y.size) (ha : a.size ≤ 1073741824) (hx : AskT x) (hx2 : x.size ≤ 1000) (b : Bool) (hb : b = true ↔ MetM L (bytes a) (bytes x)) :
    Calls Tryz.prog 115 #[.pointer (some ⟨g, 0, none⟩), .agg #[.string a, .string x]] W (FoundPost b W) := by
  obtain ⟨P, m, n, c0, c1, hM, hn, hd⟩ := hC
  have hb1 := Below.one W (.cells #[.string a, .string x] 73)
  have hb2 := Below.next hb1 (Below.one (W.alloc (.cells #[.string a, .string x] 73)) (.cells #[] 79))
  have d0 := (hb1.cell (p := ⟨g, 0, none⟩) (World.block_lt_of_cell? _ _ c0)).trans c0
  have d1 := (hb1.cell (p := ⟨g, 1, none⟩) (World.block_lt_of_cell? _ _ c1)).trans c1
  have e0 := (hb2.cell (p := ⟨g, 0, none⟩) (World.block_lt_of_cell? _ _ c0)).trans c0
  have e1 := (hb2.cell (p := ⟨g, 1, none⟩) (World.block_lt_of_cell? _ _ c1)).trans c1
  obtain ⟨q, hq⟩ := exB ((a, x) ∈ mboxL L)
  have s0 : (W.alloc (.cells #[.string a, .string x] 73)).cell? ⟨W.heap.size, 0, none⟩ = some (.string a) := by rw [blk_cell (blk_new _ _)]; rfl
  have s1 : (W.alloc (.cells #[.string a, .string x] 73)).cell? ⟨W.heap.size, 1, none⟩ = some (.string x) := by rw [blk_cell (blk_new _ _)]; rfl
  have t0 := ((Below.one (W.alloc (.cells #[.string a, .string x] 73)) (.cells #[] 79)).cell (p := ⟨W.heap.size, 0, none⟩) (by simp)).trans s0
  have t1 := ((Below.one (W.alloc (.cells #[.string a, .string x] 73)) (.cells #[] 79)).cell (p := ⟨W.heap.size, 1, none⟩) (by simp)).trans s1
  have hla : a.size ≤ maxLen := by unfold maxLen; omega
  have hlx : x.size ≤ maxLen := by unfold maxLen; omega
  have hl1 := (show MapM L m n (W.alloc (.cells #[.string a, .string x] 73)).drew from hM.next hb1.drew).look hs hla hlx hq
  have hl2 := (show MapM L m n ((W.alloc (.cells #[.string a, .string x] 73)).alloc (.cells #[] 79)).drew from hM.next hb2.drew).look hs hla hlx hq
  have HM := Lib.hid (hM.next hb1)
  have hbq : b = true ↔ q = true ∨ MetD (domsL L) x := by
    rw [hb, metM_iff, hq]
    constructor
    · rintro (h | ⟨y, hy, h⟩)
      · exact .inl h
      · exact .inr ⟨y, hy, .inr h⟩
    · rintro (h | ⟨y, hy, h | h⟩)
      · exact .inl h
      · have := h0 y hy; omega
      · exact .inr ⟨y, hy, h⟩
  have hzz := mbSet_size (mboxL L)
  have hq0 : q = true → Maps.size (mbSet (mboxL L)) ≠ 0 := fun h e => by
    have := hq.1 h
    rw [hzz.1 e] at this
    cases this
  generalize hz : Maps.size (mbSet (mboxL L)) = z at *
  have HZ := Lib.hid hz
  have HB1 := Lib.hid hb1
  have HB2 := Lib.hid hb2
  -- what is asked of the hosts, in either world
  have HD : Hid (q = false → (P = .nilIface ∧ b = false) ∨ ∃ h, P = .iface 108 (.pointer (some ⟨h, 0, none⟩)) ∧ ∀ V, Below W.heap.size W V → Calls Tryz.prog 121 #[.pointer (some ⟨h, 0, none⟩), .string x] V (FoundPost b V)) := fun hqf => by
    have hbd : b = true ↔ MetD (domsL L) x := by rw [hbq, hqf]; simp
    rcases hd with ⟨hd, rfl⟩ | ⟨h, w1, hd, rfl, hD⟩
    · refine .inl ⟨rfl, ?_⟩
      cases b
      · rfl
      · obtain ⟨y, hy, -⟩ := hbd.1 rfl
        rw [hd] at hy; cases hy
    · exact .inr ⟨h, rfl, fun V hV => query_ask h w1 V (domsL L) (hD.next hV) hL x hx b hbd⟩
  clear hd hb hM hb1 hb2 c0 c1 hzz hs hL h0 hx hq
  by_cases hz0 : z = 0
  · have hqf : q = false := by
      cases q
      · rfl
      · exact absurd hz0 (hq0 rfl)
    have hD := HD.out hqf
    subst hz0
    clear hq0 hbq hl1 hl2 t0 t1 e0 e1 hqf HD hz HB2
    rcases hD with ⟨rfl, rfl⟩ | ⟨h, rfl, hD⟩
    · have F : Hid (FoundPost false W (.returned (.tuple #[.string ⟨#[]⟩, .bool false])) (W.alloc (.cells #[.string a, .string x] 73))) := ⟨_, rfl, HB1.out⟩
      go_enter Tryz.func115, Tryz.ntmps115
      go_wp2_with (at_len; refine wpList_len_own _ rfl _ 77 rfl 73 79 Tryz.underlying77 unitElem m n _ rfl HM.out ?_; rw [HZ.out])
      go_ret2
      exact F.out
    · have H := Lib.hid (hD _ HB1.out.drew)
      clear hD
      go_enter Tryz.func115, Tryz.ntmps115
      go_wp2_with (at_len; refine wpList_len_own _ rfl _ 77 rfl 73 79 Tryz.underlying77 unitElem m n _ rfl HM.out ?_; rw [HZ.out])
      go_region_with (rw [method_query _ _ _ (by kernel_rfl)]; simp only [Result.andThen]; rw [enters_of Tryz.func121 (by kernel_rfl) rfl, Oper.upon_enter]; refine H.out.mono ?_; rintro e w1 ⟨v, rfl, hb1⟩)
      all_goals
        have F : Hid (FoundPost b W (.returned (.tuple #[v, .bool b])) w1) := ⟨v, rfl, HB1.out.drew.trans (hb1.mono HB1.out.drew.size)⟩
        clear hb1 H
        go_wp2
        go_ret2
        exact F.out
  · have hzl : ((0:Int) < (z : Int)) := by omega
    cases q
    · have hD := HD.out rfl
      clear hq0 hbq HD hz0
      rcases hD with ⟨rfl, rfl⟩ | ⟨h, rfl, hD⟩
      · have F : Hid (FoundPost false W (.returned (.tuple #[.string ⟨#[]⟩, .bool false])) ((W.alloc (.cells #[.string a, .string x] 73)).alloc (.cells #[] 79)).drew) := ⟨_, rfl, HB2.out.drew⟩
        go_enter Tryz.func115, Tryz.ntmps115
        go_wp2_with (at_len; refine wpList_len_own _ rfl _ 77 rfl 73 79 Tryz.underlying77 unitElem m n _ rfl HM.out ?_; rw [HZ.out])
        go_region
        all_goals
          go_wp2
          go_ret2
          exact F.out
      · have H := Lib.hid (hD _ HB2.out.drew.drew)
        clear hD
        go_enter Tryz.func115, Tryz.ntmps115
        go_wp2_with (at_len; refine wpList_len_own _ rfl _ 77 rfl 73 79 Tryz.underlying77 unitElem m n _ rfl HM.out ?_; rw [HZ.out])
        go_region
        all_goals
          go_wp2
          go_region_with (rw [method_query _ _ _ (by kernel_rfl)]; simp only [Result.andThen]; rw [enters_of Tryz.func121 (by kernel_rfl) rfl, Oper.upon_enter]; refine H.out.mono ?_; rintro e w1 ⟨v, rfl, hb1⟩)
          all_goals
            have F : Hid (FoundPost b W (.returned (.tuple #[v, .bool b])) w1) := ⟨v, rfl, HB2.out.drew.drew.trans (hb1.mono HB2.out.drew.drew.size)⟩
            clear hb1 H
            go_wp2
            go_ret2
            exact F.out
    · have F : Hid (b = true) := hbq.2 (.inl rfl)
      clear HD hbq hq0 hz0
      go_enter Tryz.func115, Tryz.ntmps115
      go_wp2_with (at_len; refine wpList_len_own _ rfl _ 77 rfl 73 79 Tryz.underlying77 unitElem m n _ rfl HM.out ?_; rw [HZ.out])
      go_region
      all_goals
        go_wp2
        go_ret2
        exact ⟨_, ret_w (by rw [F.out]; rfl), HB2.out.drew⟩
end Go.Proofs.YtdinnpjplgkffaaGreatDoor
namespace Go.Proofs.YtdinnpjplgkffaaGreatDoor
open Go.ChangeShapes Go.WideShapes Go.ChangeAt Go.RowKit

set_option maxRecDepth 100000 in
theorem method_mail (a : Addr) (w : World) (s : String) (hs : s = (String.ofList (List.map Char.ofNat [108, 111, 111, 112, 46, 101, 120, 97, 109, 112, 108, 101, 47, 112, 117, 98, 45, 103, 48, 51, 49, 50, 57, 47, 112, 117, 98, 47, 110, 97, 109, 101, 99, 111, 110, 115, 116, 114, 97, 105, 110, 116, 115, 46, 113, 117, 101, 114, 121]))) : (method 295 80 (.pointer (some a)) s).run Tryz.prog w = .ok (115, .pointer (some a)) w := by
  subst hs
  kernel_rfl
/-- What constraints of mail addresses say where they are asked: none where there are none. -/
def AskE (w : World) (P : Value) (arg : Value) (p : Option Bool) : Prop :=
  (p = none ∧ P = .nilIface) ∨ ∃ g b, p = some b ∧ P = .iface 80 (.pointer (some ⟨g, 0, none⟩)) ∧ ∀ W, Below w.heap.size w W → Calls Tryz.prog 115 #[.pointer (some ⟨g, 0, none⟩), arg] W (FoundPost b W)
theorem AskE.next {w w' : World} {P arg : Value} {p : Option Bool} (h : AskE w P arg p) (k : Below w.heap.size w w') : AskE w' P arg p := by
  rcases h with h | ⟨g, b, h1, h2, h3⟩
  · exact .inl h
  · exact .inr ⟨g, b, h1, h2, fun W hW => h3 W (k.trans (hW.mono k.size))⟩
theorem AskE.form {w : World} {P arg : Value} {p : Option Bool} (h : AskE w P arg p) : P = .nilIface ∨ ∃ g, P = .iface 80 (.pointer (some ⟨g, 0, none⟩)) := by
  rcases h with ⟨-, e⟩ | ⟨g, _, -, e, -⟩
  · exact .inl e
  · exact .inr ⟨g, e⟩
def AskM (arg : Value) (p : Option Bool) (w : World) (e : Ending) (w' : World) : Prop := ∃ P, e = .returned P ∧ AskE w' P arg p ∧ Below w.heap.size w w'
theorem mbox_small {L : List ByteArray} (h : ∀ y ∈ L, MailE y) : mbSmall (mboxL L) := fun p hp => by
  unfold mboxL at hp
  simp only [List.mem_filterMap, Option.map_eq_some_iff] at hp
  obtain ⟨y, hy, ⟨u, v⟩, e, rfl⟩ := hp
  have h1 := (cutL_some.1 e).1
  have h2 := congrArg List.length h1
  rw [bytes_length, List.length_append, List.length_cons] at h2
  have h3 : y.size ≤ 400 := by rcases h y hy with ⟨_, _, _, _, _, h⟩ | ⟨_, _, _, h⟩ <;> exact h
  unfold maxLen
  simp only [size_ofBytes, lowL_length]
  omega
theorem doms_pos {L : List ByteArray} (h : ∀ y ∈ L, MailE y) : ∀ y ∈ domsL L, 0 < y.size := fun y hy => by
  obtain ⟨h1, h2⟩ := mem_domsL.1 hy
  rcases h y h1 with ⟨p, q, e, -⟩ | ⟨-, -, e, -⟩
  · exact absurd (cutL_mem e) h2
  · exact e
/-- What a row of constraints of mail addresses is made to. -/
theorem makes_mail (L : List ByteArray) (hl : L.length ≤ 2147483647) (hs : ∀ y ∈ L, MailE y) (pm : Bool) (a x : ByteArray) (ha : a.size ≤ 1073741824) (hx : AskT x) (hx2 : x.size ≤ 1000) (b : Bool) (hb : b = true ↔ MetM L (bytes a) (bytes x)) (A : Option Addr) (c : Nat) (W : World) (hr : Rd W A (strs L)) :
    Calls Tryz.prog 32 #[.slice A L.length c, .bool pm] W (AskM (.agg #[.string a, .string x]) (askL L b) W) := by
  unfold askL
  by_cases h0 : L = []
  · subst h0
    rw [if_pos rfl]
    refine (newMail_nil A c pm W).mono fun e w' h => ?_
    obtain ⟨rfl, rfl⟩ := h
    exact ⟨_, rfl, .inl ⟨rfl, rfl⟩, Below.refl _ _⟩
  · rw [if_neg h0]
    refine (newMail_any A _ c L pm W rfl hl hr h0 hs).mono fun e w' h => ?_
    obtain ⟨g, rfl, hC, hb1⟩ := h
    exact ⟨_, rfl, .inr ⟨g, b, rfl, rfl, fun V hV => mailQuery_any L g V a x (hC.next hV) (mbox_small hs) (doms_texts hs) (doms_pos hs) ha hx hx2 b hb⟩, hb1⟩

/-! ### THE QUERY -/
end Go.Proofs.YtdinnpjplgkffaaGreatDoor
namespace Go.Proofs.YtdinnpjplgkffaaGreatDoor
open Go.ChangeShapes Go.WideShapes Go.ChangeAt Go.RowKit

theorem three_blocks (w : World) (C1 C2 : Array Value) (T1 T2 : TypeId) : Below w.heap.size w (((w.alloc (.cells C1 T1)).alloc (.cells C2 T2)).alloc (.cells C2 T2)) ∧ (((w.alloc (.cells C1 T1)).alloc (.cells C2 T2)).alloc (.cells C2 T2)).heap[w.heap.size]? = some (.cells C1 T1 (0, 0)) ∧ (((w.alloc (.cells C1 T1)).alloc (.cells C2 T2)).alloc (.cells C2 T2)).heap[w.heap.size + 1]? = some (.cells C2 T2 (0, 0)) := by
  have h1 : (w.alloc (.cells C1 T1)).heap.size = w.heap.size + 1 := by simp
  have h2 : ((w.alloc (.cells C1 T1)).alloc (.cells C2 T2)).heap.size = w.heap.size + 2 := by simp
  have b1 := Below.one w (.cells C1 T1)
  have b2 := Below.one (w.alloc (.cells C1 T1)) (.cells C2 T2)
  have b3 := Below.one ((w.alloc (.cells C1 T1)).alloc (.cells C2 T2)) (.cells C2 T2)
  refine ⟨Below.next (Below.next b1 b2) b3, ?_, ?_⟩
  · rw [b3.block _ (by omega), b2.block _ (by omega)]; exact blk_new _ _
  · rw [b3.block _ (by omega), ← h1]; exact blk_new _ _
set_option maxRecDepth 100000 in
set_option maxHeartbeats 4000000 in
theorem checkM_any (kind a x : ByteArray) (hk : kind.size ≤ 100) (P E : Value) (p q : Option Bool) (w : World) (hP : AskE w P (.agg #[.string a, .string x]) p) (hE : AskE w E (.agg #[.string a, .string x]) q) (r : Bool) (hr : refB p q = r) :
    Calls Tryz.prog 46 #[.agg #[.string kind, P, E], .agg #[.string a, .string x], .agg #[.string a, .string x]] w (ChkPost kind r w) := by
  obtain ⟨W0, hW0⟩ : ∃ W, W = ((w.alloc (.cells #[.string kind, P, E] 60)).alloc (.cells #[.string a, .string x] 73)).alloc (.cells #[.string a, .string x] 73) := ⟨_, rfl⟩
  have hb0 : Below w.heap.size w W0 := by rw [hW0]; exact (three_blocks _ _ _ _ _).1
  have hk0 : W0.heap[w.heap.size]? = some (.cells #[.string kind, P, E] 60 (0, 0)) := by rw [hW0]; exact (three_blocks _ _ _ _ _).2.1
  have hk1 : W0.heap[w.heap.size + 1]? = some (.cells #[.string a, .string x] 73 (0, 0)) := by rw [hW0]; exact (three_blocks _ _ _ _ _).2.2
  have HN : Hid (∀ s W, Calls Tryz.prog 38 #[.string s] W (ErrPost s W)) := fun s W => errNew_any s W
  have HW := Lib.hid hW0
  have HB0 := Lib.hid hb0
  have HK0 := Lib.hid hk0
  have HK1 := Lib.hid hk1
  have HR := Lib.hid hr
  clear hW0 hb0 hk0 hk1 hr
  rcases hP with ⟨rfl, rfl⟩ | ⟨g, b, rfl, rfl, hq⟩
  · rcases hE with ⟨rfl, rfl⟩ | ⟨g2, b2, rfl, rfl, hq2⟩
    · have F : Hid (ChkPost kind r w (.returned .nilIface) W0) := ⟨HB0.out, .inl ⟨HR.out.symm, rfl⟩⟩
      rw [HW.out] at F
      clear HR HW HB0 HK0 HK1
      go_enter Tryz.func46, Tryz.ntmps46
      go_wp2
      go_ret
      exact F.out
    · have c0 := blk_cell HK0.out 0
      have c1 := blk_cell HK0.out 1
      have c2 := blk_cell HK0.out 2
      simp at c0 c1 c2
      have a0 := blk_cell HK1.out 0
      have a1 := blk_cell HK1.out 1
      simp at a0 a1
      have HQ2 := Lib.hid (hq2 W0 HB0.out)
      clear hq2
      cases b2
      · go_enter Tryz.func46, Tryz.ntmps46
        go_wp2_with fail
        rw [← HW.out]
        rw [method_mail _ _ _ (by kernel_rfl)]
        simp only [Result.andThen]
        rw [enters_of Tryz.func115 (by kernel_rfl) rfl, Oper.upon_enter]
        refine HQ2.out.mono ?_
        rintro e w1 ⟨v, rfl, hb1⟩
        have F : Hid (ChkPost kind r w (.returned .nilIface) w1) := ⟨HB0.out.trans (hb1.mono HB0.out.size), .inl ⟨HR.out.symm, rfl⟩⟩
        clear hb1 HR HQ2
        go_wp2
        go_ret
        exact F.out
      · go_enter Tryz.func46, Tryz.ntmps46
        go_wp2_with fail
        rw [← HW.out]
        rw [method_mail _ _ _ (by kernel_rfl)]
        simp only [Result.andThen]
        rw [enters_of Tryz.func115 (by kernel_rfl) rfl, Oper.upon_enter]
        refine HQ2.out.mono ?_
        rintro e w1 ⟨v, rfl, hb1⟩
        have d0 := (hb1.cell (p := ⟨w.heap.size, 0, none⟩) (blk_lt HK0.out)).trans c0
        have HB1 := Lib.hid (HB0.out.trans (hb1.mono HB0.out.size))
        clear hb1 HQ2 c0 c1 c2
        go_wp2_with fail
        refine (HN.out _ _).mono ?_
        rintro e w2 ⟨u, rfl, he, hb2⟩
        have F : Hid (ChkPost kind r w (.returned u) w2) := ⟨HB1.out.trans (hb2.mono HB1.out.size), .inr ⟨HR.out.symm, u, _, rfl, he, .inr rfl⟩⟩
        clear he hb2 HR HN
        go_wp2
        go_ret
        exact F.out
  · have c0 := blk_cell HK0.out 0
    have c1 := blk_cell HK0.out 1
    have c2 := blk_cell HK0.out 2
    simp at c0 c1 c2
    have a0 := blk_cell HK1.out 0
    have a1 := blk_cell HK1.out 1
    simp at a0 a1
    have HQ := Lib.hid (hq W0 HB0.out)
    clear hq
    cases b
    · go_enter Tryz.func46, Tryz.ntmps46
      go_wp2_with fail
      rw [← HW.out]
      rw [method_mail _ _ _ (by kernel_rfl)]
      simp only [Result.andThen]
      rw [enters_of Tryz.func115 (by kernel_rfl) rfl, Oper.upon_enter]
      refine HQ.out.mono ?_
      rintro e w1 ⟨v, rfl, hb1⟩
      have d0 := (hb1.cell (p := ⟨w.heap.size, 0, none⟩) (blk_lt HK0.out)).trans c0
      have HB1 := Lib.hid (HB0.out.trans (hb1.mono HB0.out.size))
      clear hb1 HQ c0 c1 c2
      go_wp2_with fail
      refine (HN.out _ _).mono ?_
      rintro e w2 ⟨u, rfl, he, hb2⟩
      have F : Hid (ChkPost kind r w (.returned u) w2) := ⟨HB1.out.trans (hb2.mono HB1.out.size), .inr ⟨HR.out.symm, u, _, rfl, he, .inl rfl⟩⟩
      clear he hb2 HR HN
      go_wp2
      go_ret
      exact F.out
    · rcases hE with ⟨rfl, rfl⟩ | ⟨g2, b2, rfl, rfl, hq2⟩
      · go_enter Tryz.func46, Tryz.ntmps46
        go_wp2_with fail
        rw [← HW.out]
        rw [method_mail _ _ _ (by kernel_rfl)]
        simp only [Result.andThen]
        rw [enters_of Tryz.func115 (by kernel_rfl) rfl, Oper.upon_enter]
        refine HQ.out.mono ?_
        rintro e w1 ⟨v, rfl, hb1⟩
        have d2 := (hb1.cell (p := ⟨w.heap.size, 2, none⟩) (blk_lt HK0.out)).trans c2
        have g0 := (hb1.cell (p := ⟨w.heap.size + 1, 0, none⟩) (blk_lt HK1.out)).trans a0
        have g1 := (hb1.cell (p := ⟨w.heap.size + 1, 1, none⟩) (blk_lt HK1.out)).trans a1
        have F : Hid (ChkPost kind r w (.returned .nilIface) w1) := ⟨HB0.out.trans (hb1.mono HB0.out.size), .inl ⟨HR.out.symm, rfl⟩⟩
        clear hb1 HQ c0 c1 c2 HR
        go_wp2
        go_ret
        exact F.out
      · have hq3 := hq2
        clear hq2
        cases b2
        · go_enter Tryz.func46, Tryz.ntmps46
          go_wp2_with fail
          rw [← HW.out]
          rw [method_mail _ _ _ (by kernel_rfl)]
          simp only [Result.andThen]
          rw [enters_of Tryz.func115 (by kernel_rfl) rfl, Oper.upon_enter]
          refine HQ.out.mono ?_
          rintro e w1 ⟨v, rfl, hb1⟩
          have d2 := (hb1.cell (p := ⟨w.heap.size, 2, none⟩) (blk_lt HK0.out)).trans c2
          have g0 := (hb1.cell (p := ⟨w.heap.size + 1, 0, none⟩) (blk_lt HK1.out)).trans a0
          have g1 := (hb1.cell (p := ⟨w.heap.size + 1, 1, none⟩) (blk_lt HK1.out)).trans a1
          have HB1 := Lib.hid (HB0.out.trans (hb1.mono HB0.out.size))
          have HQ2 := Lib.hid (hq3 w1 HB1.out)
          clear hb1 HQ c0 c1 c2 hq3
          go_wp2_with fail
          rw [method_mail _ _ _ (by kernel_rfl)]
          simp only [Result.andThen]
          rw [enters_of Tryz.func115 (by kernel_rfl) rfl, Oper.upon_enter]
          refine HQ2.out.mono ?_
          rintro e w2 ⟨v2, rfl, hb2⟩
          have F : Hid (ChkPost kind r w (.returned .nilIface) w2) := ⟨HB1.out.trans (hb2.mono HB1.out.size), .inl ⟨HR.out.symm, rfl⟩⟩
          clear hb2 HQ2 HR
          go_wp2
          go_ret
          exact F.out
        · go_enter Tryz.func46, Tryz.ntmps46
          go_wp2_with fail
          rw [← HW.out]
          rw [method_mail _ _ _ (by kernel_rfl)]
          simp only [Result.andThen]
          rw [enters_of Tryz.func115 (by kernel_rfl) rfl, Oper.upon_enter]
          refine HQ.out.mono ?_
          rintro e w1 ⟨v, rfl, hb1⟩
          have d0 := (hb1.cell (p := ⟨w.heap.size, 0, none⟩) (blk_lt HK0.out)).trans c0
          have d2 := (hb1.cell (p := ⟨w.heap.size, 2, none⟩) (blk_lt HK0.out)).trans c2
          have g0 := (hb1.cell (p := ⟨w.heap.size + 1, 0, none⟩) (blk_lt HK1.out)).trans a0
          have g1 := (hb1.cell (p := ⟨w.heap.size + 1, 1, none⟩) (blk_lt HK1.out)).trans a1
          have HB1 := Lib.hid (HB0.out.trans (hb1.mono HB0.out.size))
          have HQ2 := Lib.hid (hq3 w1 HB1.out)
          have hlt1 : w.heap.size < w1.heap.size := Nat.lt_of_lt_of_le (blk_lt HK0.out) hb1.size
          clear hb1 HQ c0 c1 c2 hq3
          go_wp2_with fail
          rw [method_mail _ _ _ (by kernel_rfl)]
          simp only [Result.andThen]
          rw [enters_of Tryz.func115 (by kernel_rfl) rfl, Oper.upon_enter]
          refine HQ2.out.mono ?_
          rintro e w2 ⟨v2, rfl, hb2⟩
          have e0 := (hb2.cell (p := ⟨w.heap.size, 0, none⟩) hlt1).trans d0
          have HB2 := Lib.hid (HB1.out.trans (hb2.mono HB1.out.size))
          clear hb2 HQ2 d0 d2 hlt1
          go_wp2_with fail
          refine (HN.out _ _).mono ?_
          rintro e w3 ⟨u, rfl, he, hb3⟩
          have F : Hid (ChkPost kind r w (.returned u) w3) := ⟨HB2.out.trans (hb3.mono HB2.out.size), .inr ⟨HR.out.symm, u, _, rfl, he, .inr rfl⟩⟩
          clear he hb3 HR HN
          go_wp2
          go_ret
          exact F.out
end Go.Proofs.YtdinnpjplgkffaaGreatDoor
namespace Go.Proofs.YtdinnpjplgkffaaGreatDoor
open Go.ChangeShapes Go.WideShapes Go.ChangeAt Go.RowKit

theorem info_mb : (Tryz.prog.info? 73).map (fun i => (i.zero, i.size, i.bytes)) = some (some (.agg #[.string ByteArray.empty, .string ByteArray.empty]), 2, 32) := by kernel_rfl
/-- One mailbox in a row. -/
def BoxP (p x : ByteArray) (w : World) (e : Ending) (w' : World) : Prop := ∃ g c, e = .returned (.tuple #[.slice (some ⟨g, 0, none⟩) 1 c, .nilIface]) ∧ w'.cell? ⟨g, 0, none⟩ = some (.string p) ∧ w'.cell? ⟨g, 1, none⟩ = some (.string x) ∧ Below w.heap.size w w'
def RowB (w : World) (base : Nat) (v : Value) (n : Nat) (l : List Value) : Prop := w.ownsRow base 73 2 v n l
theorem RowB.below {w w' : World} {base n : Nat} {v : Value} {l : List Value} (h : RowB w base v n l) (b : Below w.heap.size w w') : RowB w' base v n l :=
  World.ownsRow.kept (row := none) h ⟨b.os, b.tape, b.output, b.size, fun k hk _ => b.block k hk⟩ (by
    cases e : v.ownBlock
    · exact .inl rfl
    · exact .inr (by simp))
theorem RowB.one {w : World} {base : Nat} {v : Value} {A B : Value} (h : RowB w base v 1 [A, B]) : ∃ g c, v = .slice (some ⟨g, 0, none⟩) 1 c ∧ w.cell? ⟨g, 0, none⟩ = some A ∧ w.cell? ⟨g, 1, none⟩ = some B := by
  obtain ⟨h1, h2⟩ := h
  rcases h2 with ⟨-, h0⟩ | ⟨g, cap, cur, rfl, hbase, hh, hnc, hcm, hsz, htk⟩
  · cases h0
  · refine ⟨g, cap, rfl, ?_, ?_⟩
    · rw [blk_cell hh, ← Array.getElem?_toList]
      have := congrArg (·[0]?) htk
      simpa [List.getElem?_take] using this
    · rw [blk_cell hh, ← Array.getElem?_toList]
      have := congrArg (·[1]?) htk
      simpa [List.getElem?_take] using this
set_option maxRecDepth 100000 in
set_option maxHeartbeats 4000000 in
theorem parseBoxes_any (s : ByteArray) (b : Nat) (p q : List UInt8) (w : World) (hs : s.size ≤ 1073741824) (hc : w.cell? ⟨b, 0, none⟩ = some (.string s)) (hm : parseM (bytes s) = some (p, q)) (hq : nameOk q = true) :
    Calls Tryz.prog 31 #[.slice (some ⟨b, 0, none⟩) 1 1] w (BoxP (ofBytes p) (ofBytes (lowL q)) w) := by
  have HPn := fun W => parse_any s hs W
  rw [hm] at HPn
  unfold mailV at HPn
  dsimp only at HPn
  have HP := Lib.hid HPn
  have hqs := nameOk_size hq
  have HTn := fun W => strLower_eq (ofBytes q) (by rw [size_ofBytes]; omega) (fun c hc => by rw [bytes_ofBytes] at hc; exact (nameB_ascii (nameOk_bytes hq) c hc).1) W
  rw [bytes_ofBytes] at HTn
  have HT := Lib.hid HTn
  have hmax : (2147483648 : Nat) ≤ maxLen := by unfold maxLen; omega
  clear HPn HTn hm hq hqs
  generalize ofBytes (lowL q) = B at *
  generalize ofBytes q = B0 at *
  generalize ofBytes p = A at *
  have HC := Lib.hid hc
  have HLb : Hid (b < w.heap.size) := World.block_lt_of_cell? _ _ hc
  obtain ⟨i0, hi, hz0, hz1, hz2⟩ := info_parts info_mb
  clear hc
  go_enter Tryz.func31, Tryz.ntmps31
  go_wp2_with (at_make; refine wpList_make_own _ rfl (.const (.int .i64 0)) (.tmp 10) 53 rfl w.heap.size 73 i0 _ 2 Tryz.underlying53 hi hz0 hz1 .i64 .i64 _ 1 rfl rfl (by omega) (by rw [hz2]; omega) (by omega) (by simp) ?_)
  intro w2 hown0 hgr0
  have HB2 := Lib.hid ((Below.refl w.heap.size w).grown hgr0 (Nat.le_refl _) (fun k hk => by cases hk))
  have k0 := (HB2.out.cell (p := ⟨b, 0, none⟩) HLb.out).trans HC.out
  have HO := Lib.hid (show RowB w2 w.heap.size _ 0 [] from hown0)
  clear hown0 hgr0
  go_wp2
  refine wp_loop_rounds 2 ?_
  rw [rounds_succ]
  go_wp2_with fail
  refine (HP.out _).mono ?_
  rintro e w3 ⟨rfl, hb3⟩
  have HB3 := Lib.hid hb3
  clear hb3 HP
  go_wp2_with fail
  refine (HT.out _).mono ?_
  rintro e w4 ⟨rfl, hb4⟩
  have hk4 : w4.heap[w3.heap.size]? = some (.cells #[.string A, .string B0] 73 (0, 0)) := (hb4.block _ (by simp)).trans (blk_new _ _)
  have c0 : w4.cell? ⟨w3.heap.size, 0, none⟩ = some (.string A) := by rw [blk_cell hk4]; rfl
  have c1 : w4.cell? ⟨w3.heap.size, 1, none⟩ = some (.string B0) := by rw [blk_cell hk4]; rfl
  have f1 : w4.frozen? ⟨w3.heap.size, 1, none⟩ = false := by simp [World.frozen?, hk4]
  have hw4 : Below w2.heap.size w2 w4 := (HB3.out.trans ((Below.one _ _).mono HB3.out.size)).trans (hb4.mono (by have := HB3.out.size; simp only [World.size_alloc]; omega))
  have hw5 := hw4.setCell (p := ⟨w3.heap.size, 1, none⟩) HB3.out.size (.string B)
  have HB5 := Lib.hid hw5
  have hb6 : Below w2.heap.size w2 ((w4.setCell ⟨w3.heap.size, 1, none⟩ (.string B)).alloc (.cells #[.string A, .string B] 73)) := hw5.trans ((Below.one _ _).mono hw5.size)
  have HO6 := Lib.hid (HO.out.below hb6)
  have hsz4 : (w4.setCell ⟨w3.heap.size, 1, none⟩ (.string B)).heap.size = w4.heap.size := by simp
  have HN6 : Hid (∀ (j : Nat) (u : Value), [Value.string A, Value.string B][j]? = some u → ((w4.setCell ⟨w3.heap.size, 1, none⟩ (.string B)).alloc (.cells #[.string A, .string B] 73)).cell? ((⟨w4.heap.size, 0, none⟩ : Addr).add j) = some u) := fun j u hj => by
    rw [add_mk, Nat.zero_add, ← hsz4, blk_cell (blk_new _ _), ← Array.getElem?_toList]
    exact hj
  have HB6 := Lib.hid (HB2.out.trans (hb6.mono HB2.out.size))
  have HS6 : Hid (w.heap.size ≤ ((w4.setCell ⟨w3.heap.size, 1, none⟩ (.string B)).alloc (.cells #[.string A, .string B] 73)).heap.size) := HB6.out.size
  clear hw4 hw5 hb4 hk4 HB3 HT hb6 hsz4 HO HB5
  go_wp2_with (at_builtin; refine wpList_append_own _ rfl (.tmp 30) (.tmp 32) 53 rfl w.heap.size 73 i0 _ 2 32 Tryz.underlying53 hi hz0 hz1 hz2 rfl (by decide) _ 0 [] rfl HO6.out ⟨w4.heap.size, 0, none⟩ 1 1 [.string A, .string B] rfl rfl HN6.out (fun u hu => by simp at hu; rcases hu with rfl | rfl <;> rfl) (by omega) (by decide) HS6.out ?_)
  intro v' w7 hown7 hgrow7 _
  obtain ⟨g, cap, rfl, q0, q1⟩ := RowB.one (show RowB w7 w.heap.size v' 1 [.string A, .string B] from hown7)
  have F : Hid (BoxP A B w (.returned (.tuple #[.slice (some ⟨g, 0, none⟩) 1 cap, .nilIface])) w7) := ⟨g, cap, rfl, q0, q1, HB6.out.grown hgrow7 HS6.out (fun k hk => (World.ownsRow.lt HO6.out k hk).1)⟩
  clear hown7 hgrow7 q0 q1 HO6 HN6 HB6 HS6 c0 c1 f1 k0
  go_wp2
  rw [rounds_succ]
  go_wp2
  go_ret2
  exact F.out
end Go.Proofs.YtdinnpjplgkffaaGreatDoor
namespace Go.Proofs.YtdinnpjplgkffaaGreatDoor
open Go.ChangeShapes Go.WideShapes Go.ChangeAt Go.RowKit

set_option maxRecDepth 100000 in
set_option maxHeartbeats 4000000 in
theorem checkMail_any (g b c : Nat) (P E : Value) (a x : ByteArray) (p q : Option Bool) (w : World) (c0 : w.cell? ⟨g, 9, none⟩ = some (.string { data := #[101, 109, 97, 105, 108, 32, 97, 100, 100, 114, 101, 115, 115] })) (c1 : w.cell? ⟨g, 10, none⟩ = some P) (c2 : w.cell? ⟨g, 11, none⟩ = some E) (b0 : w.cell? ⟨b, 0, none⟩ = some (.string a)) (b1 : w.cell? ⟨b, 1, none⟩ = some (.string x))
    (hP : AskE w P (.agg #[.string a, .string x]) p) (hE : AskE w E (.agg #[.string a, .string x]) q) (hx : nameOk (bytes x) = true) (r : Bool) (hr : refB p q = r) :
    Calls Tryz.prog 33 #[.pointer (some ⟨g, 0, none⟩), .slice none 0 0, .slice none 0 0, .slice (some ⟨b, 0, none⟩) 1 c, .slice none 0 0] w (ChkPost { data := #[101, 109, 97, 105, 108, 32, 97, 100, 100, 114, 101, 115, 115] } r w) := by
  have HC : Hid (∀ V, Below w.heap.size w V → Calls Tryz.prog 46 #[.agg #[.string { data := #[101, 109, 97, 105, 108, 32, 97, 100, 100, 114, 101, 115, 115] }, P, E], .agg #[.string a, .string x], .agg #[.string a, .string x]] V (ChkPost { data := #[101, 109, 97, 105, 108, 32, 97, 100, 100, 114, 101, 115, 115] } r V)) := fun V hV => checkM_any { data := #[101, 109, 97, 105, 108, 32, 97, 100, 100, 114, 101, 115, 115] } a x (by decide) P E p q V (hP.next hV) (hE.next hV) r hr
  have hxs : x.size ≤ 2147483647 := by have := nameOk_size hx; rw [bytes_length] at this; omega
  have HV : Hid (∀ V, Calls Tryz.prog 43 #[.string x, .bool false] V (fun e w' => e = .returned (.bool true) ∧ V = w')) := fun V => by
    have hv := domainValid_any x false hxs V
    rw [nameOk_validL hx] at hv
    exact hv
  have hb1 := Below.one w (.cells #[.string a, .string x] 73)
  have d0 := (hb1.cell (p := ⟨g, 9, none⟩) (World.block_lt_of_cell? _ _ c0)).trans c0
  have d1 := (hb1.cell (p := ⟨g, 10, none⟩) (World.block_lt_of_cell? _ _ c1)).trans c1
  have d2 := (hb1.cell (p := ⟨g, 11, none⟩) (World.block_lt_of_cell? _ _ c2)).trans c2
  have s0 : (w.alloc (.cells #[.string a, .string x] 73)).cell? ⟨w.heap.size, 0, none⟩ = some (.string a) := by rw [blk_cell (blk_new _ _)]; rfl
  have s1 : (w.alloc (.cells #[.string a, .string x] 73)).cell? ⟨w.heap.size, 1, none⟩ = some (.string x) := by rw [blk_cell (blk_new _ _)]; rfl
  have HB1 := Lib.hid hb1
  clear hP hE hr hx c0 c1 c2 hb1
  go_enter Tryz.func33, Tryz.ntmps33
  go_wp2
  refine wp_loop_rounds 1 ?_
  rw [rounds_succ]
  go_wp2
  refine wp_loop_rounds 1 ?_
  rw [rounds_succ]
  go_wp2
  refine wp_loop_rounds 1 ?_
  rw [rounds_succ]
  go_wp2
  refine wp_loop_rounds 2 ?_
  rw [rounds_succ]
  go_wp2_with fail
  refine (HV.out _).mono ?_
  rintro e w0 ⟨rfl, rfl⟩
  go_wp2_with fail
  go_region_with (refine (HC.out _ HB1.out.drew).mono ?_; rintro e w1 ⟨hbc, h⟩; obtain ⟨vc, rfl⟩ : ∃ v, e = Ending.returned v := by (rcases h with ⟨-, rfl⟩ | ⟨-, v, s, rfl, -⟩ <;> exact ⟨_, rfl⟩))
  all_goals
    have HBc := Lib.hid (HB1.out.drew.trans (hbc.mono HB1.out.drew.size))
    rcases h with ⟨rfl, hv⟩ | ⟨rfl, v, s, hv, he, hs⟩
    · obtain rfl : vc = .nilIface := by injection hv
      have F : Hid (ChkPost { data := #[101, 109, 97, 105, 108, 32, 97, 100, 100, 114, 101, 115, 115] } false w (.returned .nilIface) w1) := ⟨HBc.out, .inl ⟨rfl, rfl⟩⟩
      clear hbc HBc HC HV hv d0 d1 d2 s0 s1
      go_wp2
      rw [rounds_succ]
      go_wp2
      go_ret
      exact F.out
    · obtain rfl : vc = v := by injection hv
      have F : Hid (ChkPost { data := #[101, 109, 97, 105, 108, 32, 97, 100, 100, 114, 101, 115, 115] } true w (.returned vc) w1) := ⟨HBc.out, .inr ⟨rfl, vc, s, rfl, he, hs⟩⟩
      obtain ⟨gg, rfl, -⟩ := he
      clear hbc HBc HC HV hv hs d0 d1 d2 s0 s1
      go_wp2
      go_ret
      exact F.out
set_option maxRecDepth 100000 in
set_option maxHeartbeats 4000000 in
theorem zzCheckMail_any (B D : Option Addr) (m1 d1 m2 d2 : Nat) (s : ByteArray) (u v : List UInt8) (p q : Option Bool) (w : World) (hs : s.size ≤ 1073741824) (hm : parseM (bytes s) = some (u, v)) (hv : nameOk v = true)
    (h1 : ∀ W, Below w.heap.size w W → Calls Tryz.prog 32 #[.slice B m1 d1, .bool true] W (AskM (.agg #[.string (ofBytes u), .string (ofBytes (lowL v))]) p W))
    (h2 : ∀ W, Below w.heap.size w W → Calls Tryz.prog 32 #[.slice D m2 d2, .bool false] W (AskM (.agg #[.string (ofBytes u), .string (ofBytes (lowL v))]) q W)) (r : Bool) (hrf : refB p q = r) :
    Calls Tryz.prog 22 #[.slice B m1 d1, .slice D m2 d2, .string s] w (ChkPost { data := #[101, 109, 97, 105, 108, 32, 97, 100, 100, 114, 101, 115, 115] } r w) := by
  have HPb : Hid (Calls Tryz.prog 31 #[.slice (some ⟨w.heap.size, 0, none⟩) 1 1] (w.alloc (.cells #[.string s] 9)) (BoxP (ofBytes u) (ofBytes (lowL v)) (w.alloc (.cells #[.string s] 9)))) :=
    parseBoxes_any s w.heap.size u v _ hs (by rw [blk_cell (blk_new _ _)]; rfl) hm hv
  have hx : nameOk (bytes (ofBytes (lowL v))) = true := by rw [bytes_ofBytes, nameOk_low]; exact hv
  generalize ofBytes (lowL v) = x at *
  generalize ofBytes u = a at *
  have H1 := Lib.hid h1
  have H2 := Lib.hid h2
  have HC : Hid (∀ (W : World) (C : Array Value) (T : TypeId) (b c : Nat) (P E : Value), C[9]? = some (.string { data := #[101, 109, 97, 105, 108, 32, 97, 100, 100, 114, 101, 115, 115] }) → C[10]? = some P → C[11]? = some E → W.cell? ⟨b, 0, none⟩ = some (.string a) → W.cell? ⟨b, 1, none⟩ = some (.string x) → AskE W P (.agg #[.string a, .string x]) p → AskE W E (.agg #[.string a, .string x]) q →
      Calls Tryz.prog 33 #[.pointer (some ⟨W.heap.size, 0, none⟩), .slice none 0 0, .slice none 0 0, .slice (some ⟨b, 0, none⟩) 1 c, .slice none 0 0] (W.alloc (.cells C T)) (ChkPost { data := #[101, 109, 97, 105, 108, 32, 97, 100, 100, 114, 101, 115, 115] } r W)) := fun W C T b c P E e0 e1 e2 q0 q1 hP hE => by
    have hb := Below.one W (.cells C T)
    refine (checkMail_any W.heap.size b c P E a x p q _ (by rw [blk_cell (blk_new _ _)]; exact e0) (by rw [blk_cell (blk_new _ _)]; exact e1) (by rw [blk_cell (blk_new _ _)]; exact e2) ((hb.cell (p := ⟨b, 0, none⟩) (World.block_lt_of_cell? _ _ q0)).trans q0) ((hb.cell (p := ⟨b, 1, none⟩) (World.block_lt_of_cell? _ _ q1)).trans q1) (hP.next hb) (hE.next hb) hx r hrf).mono fun e w' h => ?_
    exact ⟨hb.trans (h.1.mono hb.size), h.2⟩
  have HB0 := Lib.hid (Below.one w (.cells #[.string s] 9))
  clear h1 h2 hrf hx hm hv
  go_enter Tryz.func22, Tryz.ntmps22
  go_wp2_with fail
  refine HPb.out.mono ?_
  rintro e w1 ⟨b, c, rfl, k0, k1, hb1⟩
  have HB1 := Lib.hid (HB0.out.trans (hb1.mono HB0.out.size))
  have K0 := Lib.hid k0
  have K1 := Lib.hid k1
  clear k0 k1 hb1 HB0 HPb
  go_wp2_with fail
  refine (H1.out w1 HB1.out).mono ?_
  rintro e w2 ⟨P, rfl, hP, hb2⟩
  have HP := Lib.hid hP
  have HB2 := Lib.hid (HB1.out.trans (hb2.mono HB1.out.size))
  have K0b : Hid (w2.cell? ⟨b, 0, none⟩ = some (.string a)) := (hb2.cell (p := ⟨b, 0, none⟩) (World.block_lt_of_cell? _ _ K0.out)).trans K0.out
  have K1b : Hid (w2.cell? ⟨b, 1, none⟩ = some (.string x)) := (hb2.cell (p := ⟨b, 1, none⟩) (World.block_lt_of_cell? _ _ K1.out)).trans K1.out
  clear hP hb2 K0 K1 HB1 H1
  go_wp2_with fail
  refine (H2.out w2 HB2.out).mono ?_
  rintro e w3 ⟨E, rfl, hE, hb3⟩
  have HE := Lib.hid hE
  have HP3 := Lib.hid (HP.out.next hb3)
  have HB3 := Lib.hid (HB2.out.trans (hb3.mono HB2.out.size))
  have K0c : Hid (w3.cell? ⟨b, 0, none⟩ = some (.string a)) := (hb3.cell (p := ⟨b, 0, none⟩) (World.block_lt_of_cell? _ _ K0b.out)).trans K0b.out
  have K1c : Hid (w3.cell? ⟨b, 1, none⟩ = some (.string x)) := (hb3.cell (p := ⟨b, 1, none⟩) (World.block_lt_of_cell? _ _ K1b.out)).trans K1b.out
  clear hE hb3 K0b K1b HB2 H2 HP
  have f1 := HP3.out.form
  have f2 := HE.out.form
  rcases f1 with rfl | ⟨g1, rfl⟩
  all_goals
    rcases f2 with rfl | ⟨g2, rfl⟩
    all_goals
      go_wp2_with fail
      refine (HC.out w3 _ _ b c _ _ rfl rfl rfl K0c.out K1c.out HP3.out HE.out).mono ?_
      rintro e w4 ⟨hw4, h⟩
      have F : Hid (ChkPost { data := #[101, 109, 97, 105, 108, 32, 97, 100, 100, 114, 101, 115, 115] } r w e w4) := ⟨HB3.out.trans (hw4.mono HB3.out.size), h⟩
      rcases h with ⟨-, rfl⟩ | ⟨-, v, s, rfl, -, -⟩
      all_goals
        clear hw4 HC HP3 HE
        go_wp2
        go_ret
        exact F.out

theorem mtext_not : endsB (({ data := #[101, 109, 97, 105, 108, 32, 97, 100, 100, 114, 101, 115, 115] } : ByteArray) ++ { data := #[32, 105, 115, 32, 110, 111, 116, 32, 112, 101, 114, 109, 105, 116, 116, 101, 100, 32, 98, 121, 32, 97, 110, 121, 32, 99, 111, 110, 115, 116, 114, 97, 105, 110, 116] }) notT = true := by decide +kernel
theorem mtext_exc : endsB (({ data := #[101, 109, 97, 105, 108, 32, 97, 100, 100, 114, 101, 115, 115] } : ByteArray) ++ { data := #[32, 105, 115, 32, 101, 120, 99, 108, 117, 100, 101, 100, 32, 98, 121, 32, 97, 32, 99, 111, 110, 115, 116, 114, 97, 105, 110, 116] }) notT = false ∧ endsB (({ data := #[101, 109, 97, 105, 108, 32, 97, 100, 100, 114, 101, 115, 115] } : ByteArray) ++ { data := #[32, 105, 115, 32, 101, 120, 99, 108, 117, 100, 101, 100, 32, 98, 121, 32, 97, 32, 99, 111, 110, 115, 116, 114, 97, 105, 110, 116] }) excT = true := by decide +kernel
theorem mtext_size : (({ data := #[101, 109, 97, 105, 108, 32, 97, 100, 100, 114, 101, 115, 115] } : ByteArray) ++ { data := #[32, 105, 115, 32, 110, 111, 116, 32, 112, 101, 114, 109, 105, 116, 116, 101, 100, 32, 98, 121, 32, 97, 110, 121, 32, 99, 111, 110, 115, 116, 114, 97, 105, 110, 116] }).size ≤ 2147483647 ∧ (({ data := #[101, 109, 97, 105, 108, 32, 97, 100, 100, 114, 101, 115, 115] } : ByteArray) ++ { data := #[32, 105, 115, 32, 101, 120, 99, 108, 117, 100, 101, 100, 32, 98, 121, 32, 97, 32, 99, 111, 110, 115, 116, 114, 97, 105, 110, 116] }).size ≤ 2147483647 := by decide +kernel
theorem codeOf_mail (r : Bool) (w : World) (e : Ending) (w1 : World) (h : ChkPost { data := #[101, 109, 97, 105, 108, 32, 97, 100, 100, 114, 101, 115, 115] } r w e w1) : ∃ v, e = .returned v ∧ Calls Tryz.prog 21 #[v] w1 (SameE (.int .i64 (codeI r)) w1) := by
  obtain ⟨-, h⟩ := h
  rcases h with ⟨rfl, rfl⟩ | ⟨rfl, v, s, rfl, he, hs⟩
  · exact ⟨_, rfl, codeOf_nil w1⟩
  · refine ⟨_, rfl, codeOf_refused v s w1 he ?_ ?_⟩
    · rcases hs with rfl | rfl
      · exact mtext_size.1
      · exact mtext_size.2
    · rcases hs with rfl | rfl
      · exact .inl mtext_not
      · exact .inr mtext_exc
set_option maxRecDepth 100000 in
set_option maxHeartbeats 4000000 in
/-- A check of one address against two rows of constraints. -/
theorem implCheckMail_any (A1 A2 : Option Addr) (n1 c1 n2 c2 : Nat) (L1 L2 : List ByteArray) (s : ByteArray) (u v : List UInt8) (w : World) (hs : s.size ≤ 1000) (hm : parseM (bytes s) = some (u, v)) (hu : u.length ≤ 1000) (hv : nameOk v = true) (hn1 : n1 = L1.length) (hn2 : n2 = L2.length) (hl1 : L1.length ≤ 2147483647) (hl2 : L2.length ≤ 2147483647)
    (a1 : A1 = none → c1 = 0) (a2 : A2 = none → c2 = 0) (r1 : Rd w A1 (strs L1)) (r2 : Rd w A2 (strs L2)) (m1 : ∀ y ∈ L1, MailE y) (m2 : ∀ y ∈ L2, MailE y) (b1 b2 : Bool) (hb1 : b1 = true ↔ MetM L1 u (lowL v)) (hb2 : b2 = true ↔ MetM L2 u (lowL v)) (r : Bool) (hr : refB (askL L1 b1) (askL L2 b2) = r) :
    Calls Tryz.prog 12 #[.slice A1 n1 c1, .slice A2 n2 c2, .string s] w (Ret (.int .i64 (codeI r)) w) := by
  subst hn1 hn2
  have HA1 := Lib.hid a1
  have HA2 := Lib.hid a2
  have R1 := Lib.hid r1
  have R2 := Lib.hid r2
  have hvs := nameOk_size hv
  have hx : nameOk (bytes (ofBytes (lowL v))) = true := by rw [bytes_ofBytes, nameOk_low]; exact hv
  have mk1 := makes_mail L1 hl1 m1 true (ofBytes u) (ofBytes (lowL v)) (by rw [size_ofBytes]; omega) (AskT.of hx) (by rw [size_ofBytes, lowL_length]; omega) b1 (by rw [bytes_ofBytes, bytes_ofBytes]; exact hb1)
  have mk2 := makes_mail L2 hl2 m2 false (ofBytes u) (ofBytes (lowL v)) (by rw [size_ofBytes]; omega) (AskT.of hx) (by rw [size_ofBytes, lowL_length]; omega) b2 (by rw [bytes_ofBytes, bytes_ofBytes]; exact hb2)
  have HZ : Hid (∀ B D d1 d2 W, Rd W B (strs L1) → Rd W D (strs L2) → Calls Tryz.prog 22 #[.slice B L1.length d1, .slice D L2.length d2, .string s] W (ChkPost { data := #[101, 109, 97, 105, 108, 32, 97, 100, 100, 114, 101, 115, 115] } r W)) := fun B D d1 d2 W h1 h2 =>
    zzCheckMail_any B D _ d1 _ d2 s u v _ _ W (by omega) hm hv (fun W' hW => mk1 B d1 W' (h1.below hW)) (fun W' hW => mk2 D d2 W' (h2.below hW)) r hr
  clear a1 a2 r1 r2 m1 m2 hr hx hb1 hb2 mk1 mk2 hm hv hu hvs
  go_enter Tryz.func12, Tryz.ntmps12
  go_wp2_with (at_builtin; refine wpList_copy_texts rfl (.const (.slice none 0 0)) (.tmp 7) rfl w.heap.size A1 L1.length c1 L1 rfl rfl rfl HA1.out R1.out hl1 (Nat.le_refl _) ?_)
  intro v w1 hown hb
  obtain ⟨B, d1, rfl, -, -, -, hrd⟩ := hown.rd
  have HR1 := Lib.hid hrd
  have HB1 := Lib.hid hb
  have R2b := Lib.hid (R2.out.below hb)
  clear hown hb hrd R1 HA1
  go_wp2_with (at_builtin; refine wpList_copy_texts rfl (.const (.slice none 0 0)) (.tmp 9) rfl w.heap.size A2 L2.length c2 L2 rfl rfl rfl HA2.out R2b.out hl2 HB1.out.size ?_)
  intro v w2 hown hb
  obtain ⟨D, d2, rfl, -, -, -, hrd⟩ := hown.rd
  have H := Lib.hid (HZ.out B D d1 d2 w2 (HR1.out.below hb) hrd)
  have HB2 := Lib.hid (HB1.out.trans (hb.mono HB1.out.size))
  clear hown hb hrd HR1 HB1 HZ R2b
  go_wp2_with fail
  refine H.out.mono ?_
  rintro e w3 hck
  obtain ⟨v3, rfl, hco⟩ := codeOf_mail r w2 e w3 hck
  have HCo := Lib.hid hco
  have HB3 := Lib.hid (HB2.out.trans (hck.1.mono HB2.out.size))
  clear hck hco H HB2
  go_wp2_with ((with_reducible refine HCo.out.mono ?_); rintro e w4 ⟨rfl, rfl⟩)
  go_ret
  exact ⟨rfl, HB3.out⟩
end Go.Proofs.YtdinnpjplgkffaaGreatDoor
