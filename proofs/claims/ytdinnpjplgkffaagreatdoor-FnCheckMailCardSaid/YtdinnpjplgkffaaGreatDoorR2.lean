/-
  Walk: newEmailConstraints.
-/
import Derived.Test.YtdinnpjplgkffaaGreatDoorR1
import Derived.Test.YtdinnpjplgkffaaGreatDoorE8
import Derived.Test.YtdinnpjplgkffaaGreatDoorM5
namespace Go.Proofs.YtdinnpjplgkffaaGreatDoor
open Go.ChangeShapes Go.WideShapes Go.ChangeAt Go.RowKit Go.Maps

/-! ### A CELL OF AN OLDER BLOCK WRITTEN -/
theorem below_both {w0 W : World} {p : Addr} (v : Value) (h : Below w0.heap.size w0 W) : Below (w0.setCell p v).heap.size (w0.setCell p v) (W.setCell p v) := by
  refine ⟨h.os, h.tape, h.output, by simp [World.setCell]; exact h.size, fun k hk => ?_⟩
  have hk2 : k < w0.heap.size := by simpa [World.setCell] using hk
  have e := h.block k hk2
  unfold World.setCell
  simp only [Array.getElem?_modify]
  rw [e]
theorem SetS.recell {w0 W : World} {c blk : Nat} {L : List ByteArray} (h : SetS w0 c blk L W) {g : Nat} (v : Value) (hg : g < w0.heap.size) (hc : c ≠ g) : SetS (w0.setCell ⟨g, 0, none⟩ v) c blk L (W.setCell ⟨g, 0, none⟩ v) := by
  obtain ⟨i, off, cap, d, wb, p1, p2, p3, p4, p5, p6, p7⟩ := h
  have hb : blk ≠ g := by omega
  have other : ∀ b j, b ≠ g → (W.setCell ⟨g, 0, none⟩ v).cell? ⟨b, j, none⟩ = W.cell? ⟨b, j, none⟩ := fun b j hn => World.cell?_setCell_other _ _ _ _ (by intro e; simp only [Addr.mk.injEq] at e; exact hn e.1.symm)
  refine ⟨i, off, cap, d, _, p1, p2, ⟨fun j hj => ⟨(other _ _ hb).trans (p3.hH j hj).1, by rw [World.frozen?_setCell]; exact (p3.hH j hj).2⟩, by simpa [World.setCell] using p3.hb, below_both v p3.old, (other _ _ hc).trans p3.cell, by rw [World.frozen?_setCell]; exact p3.fr, Kept.refl _ _ _⟩, by simpa [World.setCell] using p4, p5, p6, p7⟩
theorem DnsC.recell {w0 W : World} {L : List ByteArray} {h g : Nat} (hD : DnsC w0 L h W) (v : Value) (hg : g < w0.heap.size) (hn : W.cell? ⟨g, 0, none⟩ = some .nilIface) : DnsC (w0.setCell ⟨g, 0, none⟩ v) L h (W.setCell ⟨g, 0, none⟩ v) := by
  have other : ∀ b j, b ≠ g → (W.setCell ⟨g, 0, none⟩ v).cell? ⟨b, j, none⟩ = W.cell? ⟨b, j, none⟩ := fun b j hn => World.cell?_setCell_other _ _ _ _ (by intro e; simp only [Addr.mk.injEq] at e; exact hn e.1.symm)
  rcases hD with ⟨h1, e0⟩ | ⟨c, blk, pm, e0, e1, e2, hs⟩
  · have hne : h ≠ g := fun e => by rw [e, hn] at e0; cases e0
    exact .inl ⟨h1, (other _ _ hne).trans e0⟩
  · have hne : h ≠ g := fun e => by rw [e, hn] at e0; cases e0
    obtain ⟨off, n, cap, ks, ec, -⟩ := hs.rd
    have hc : c ≠ g := fun e => by rw [e, hn] at ec; cases ec
    exact .inr ⟨c, blk, pm, (other _ _ hne).trans e0, (other _ _ hne).trans e1, (other _ _ hne).trans e2, hs.recell v hg hc⟩
theorem makes_dns (L : List ByteArray) (hl : L.length ≤ 2147483647) (hL : TextsE L) (h0 : L ≠ []) (pm : Bool) (A : Option Addr) (c : Nat) (W : World) (hr : Rd W A (strs L)) :
    Calls Tryz.prog 41 #[.slice A L.length c, .bool pm] W (DnsPost L W) := by
  have hsz : ∀ y ∈ L, y.size ≤ 2147483647 := fun y hy => by
    rcases hL y hy with e | e
    · omega
    · exact e.2
  by_cases he : ∃ y ∈ L, y.size = 0
  · exact newDNS_all A _ c L pm W rfl hl hr he hsz
  · have hn : ∀ y ∈ L, NameBytes (bytes y) := fun y hy => ((hL y hy).resolve_left fun e => he ⟨y, hy, e⟩).1
    have hs : ∀ y ∈ L, IsS y := fun y hy => ⟨Nat.pos_of_ne_zero fun e => he ⟨y, hy, e⟩, hsz y hy⟩
    cases pm
    · exact newDNS_excl A _ c L W rfl hl hr h0 hs hn
    · exact newDNS_perm A _ c L W rfl hl hr h0 hs

/-! ### CONSTRAINTS OF MAIL ADDRESSES -/
def MapM (L : List ByteArray) (b n : Nat) (W : World) : Prop := W.ownsMap Tryz.prog 73 unitElem b n (mbSet (mboxL L))
theorem MapM.next {L : List ByteArray} {b n : Nat} {W W2 : World} (h : MapM L b n W) (k : Below W.heap.size W W2) : MapM L b n W2 :=
  World.ownsMap.kept (row := none) h ⟨k.os, k.tape, k.output, k.size, fun i hi _ => k.block i hi⟩ (by simp)
theorem MapM.low {L : List ByteArray} {b n base : Nat} {W W2 : World} (h : MapM L b n W) (hb : b < base) (k : Below base W W2) : MapM L b n W2 := by
  obtain ⟨es, clock, e, r⟩ := h
  exact ⟨es, clock, (k.block b hb).trans e, r⟩
theorem MapM.lt {L : List ByteArray} {b n : Nat} {W : World} (h : MapM L b n W) : b < W.heap.size := World.ownsMap.lt h
/-- The constraints in their block. -/
def MailC (L : List ByteArray) (g : Nat) (W : World) : Prop :=
  ∃ P b n, W.cell? ⟨g, 0, none⟩ = some P ∧ W.cell? ⟨g, 1, none⟩ = some (.map (some b)) ∧ MapM L b n W ∧ n ≤ 2147483647 ∧
    ((domsL L = [] ∧ P = .nilIface) ∨ ∃ h w1, domsL L ≠ [] ∧ P = .iface 108 (.pointer (some ⟨h, 0, none⟩)) ∧ DnsC w1 (domsL L) h W)
theorem MailC.next {L : List ByteArray} {g : Nat} {W W2 : World} (h : MailC L g W) (k : Below W.heap.size W W2) : MailC L g W2 := by
  obtain ⟨P, b, n, c0, c1, hm, hn, hd⟩ := h
  have keep : ∀ j v, W.cell? ⟨g, j, none⟩ = some v → W2.cell? ⟨g, j, none⟩ = some v := fun j v e => (k.cell (p := ⟨g, j, none⟩) (World.block_lt_of_cell? _ _ e)).trans e
  refine ⟨P, b, n, keep _ _ c0, keep _ _ c1, hm.next k, hn, ?_⟩
  rcases hd with hd | ⟨h, w1, h1, h2, h3⟩
  · exact .inl hd
  · exact .inr ⟨h, w1, h1, h2, h3.next k⟩
def MailPost (L : List ByteArray) (w : World) (e : Ending) (w' : World) : Prop := ∃ g, e = .returned (.iface 80 (.pointer (some ⟨g, 0, none⟩))) ∧ MailC L g w' ∧ Below w.heap.size w w'
theorem doms_texts {L : List ByteArray} (h : ∀ y ∈ L, MailE y) : TextsE (domsL L) := fun y hy => by
  obtain ⟨h1, h2⟩ := mem_domsL.1 hy
  rcases h y h1 with ⟨p, q, e, -⟩ | ⟨-, e1, e2, e3⟩
  · exact absurd (cutL_mem e) h2
  · exact .inr ⟨e1, by omega⟩
theorem doms_length (L : List ByteArray) : (domsL L).length ≤ L.length := List.length_filter_le _ _
theorem newMail_nil (A : Option Addr) (c : Nat) (pm : Bool) (w : World) : Calls Tryz.prog 32 #[.slice A 0 c, .bool pm] w (SameE .nilIface w) := by
  go_enter Tryz.func32, Tryz.ntmps32
  go_wp2
  go_ret
  exact ⟨rfl, rfl⟩
set_option maxRecDepth 100000 in
set_option maxHeartbeats 8000000 in
theorem newMail_any (A : Option Addr) (n c : Nat) (L : List ByteArray) (pm : Bool) (w : World) (hn : n = L.length) (hl : L.length ≤ 2147483647) (hr : Rd w A (strs L)) (hne : L ≠ []) (hs : ∀ y ∈ L, MailE y) :
    Calls Tryz.prog 32 #[.slice A n c, .bool pm] w (MailPost L w) := by
  subst hn
  have hp := List.length_pos_iff.2 hne
  obtain ⟨ad, rfl, -⟩ := hr 0 _ (strs_get hp)
  have HR := Lib.hid hr
  have HS := Lib.hid hs
  have HD : Hid (domsL L ≠ [] → ∀ B d W, Rd W B (strs (domsL L)) → Calls Tryz.prog 41 #[.slice B (domsL L).length d, .bool pm] W (DnsPost (domsL L) W)) := fun h0 B d W h => makes_dns (domsL L) (Nat.le_trans (doms_length L) hl) (doms_texts hs) h0 pm B d W h
  have h0 : ((L.length : Int) == 0) = false := by rw [beq_eq_false_iff_ne]; omega
  have M0 : Aside (MapM (L.take 0) w.heap.size 0 (w.alloc (.map #[] 0))) := World.ownsMap_made _ _ _ _
  have O0 : Aside (OwnT (w.alloc (.map #[] 0)) (w.heap.size + 1) (.slice none 0 0) (domsL (L.take 0))) := ⟨rfl, .inl ⟨rfl, rfl⟩⟩
  have HB0 := Lib.hid (Below.one w (.map #[] 0))
  have hmm := @run_makeMap Tryz.prog
  clear hr hs hp hne
  go_enter Tryz.func32, Tryz.ntmps32
  go_wp2
  go_loopg [6, 18] L.length (fun kx s6 s18 wr => ∃ k : Nat, k ≤ L.length ∧ L.length - k ≤ kx ∧ s18 = .int .i64 k ∧ Aside (OwnT wr (w.heap.size + 1) s6 (domsL (L.take k))) ∧ Aside (MapM (L.take k) w.heap.size k wr) ∧ Aside (Below w.heap.size w wr))
  case atStart => exact ⟨0, by omega, by omega, rfl, O0, M0, HB0.out⟩
  case round =>
    clear O0 M0 HB0
    obtain ⟨k, hk, hg, rfl, HO, HM, HW⟩ := hrel
    by_cases hlt : k < L.length
    · obtain ⟨ad1, he, h1l, hc1⟩ := (HR.out.below HW.out) k _ (strs_get hlt)
      obtain rfl := Option.some.inj he
      have hy := HS.out _ (List.getElem_mem hlt)
      have e1 : L.take (k + 1) = L.take k ++ [L[k]] := List.take_succ_eq_append_getElem hlt
      generalize L[k] = y at hc1 hy e1
      rcases hy with ⟨p, q, hcut, hp, hq, hys⟩ | ⟨h64, hnb, hy0, hys⟩
      · have ey := (cutL_some.1 hcut).1
        have hany : (bytes y).any (· == 64) = true := any64.2 (cutL_mem hcut)
        have hasb : ∀ c ∈ bytes y, c.toNat < 128 := fun c hc => by
          rw [ey] at hc
          rcases List.mem_append.1 hc with h | h
          · exact locL_ascii hp c h
          · rcases List.mem_cons.1 h with rfl | h
            · decide
            · exact (nameB_ascii (nameOk_bytes hq) c h).1
        have hasc : asciiP y := fun j hj => hasb _ (by rw [← bytes_ix y j hj (by rw [bytes_length]; exact hj)]; exact List.getElem_mem _)
        have HCn := fun W => containsRune_any y (by omega) hasc W
        rw [hany] at HCn
        have HC := Lib.hid HCn
        have HPn := fun W => parse_any y (by omega) W
        rw [ey, parseM_local hp hq] at HPn
        unfold mailV at HPn
        dsimp only at HPn
        have HP := Lib.hid HPn
        have hqs := nameOk_size hq
        have hps : p.length ≤ 400 := by
          have := congrArg List.length ey
          rw [bytes_length, List.length_append] at this
          omega
        have HTn := fun W => strLower_eq (ofBytes q) (by rw [size_ofBytes]; omega) (fun c hc => by rw [bytes_ofBytes] at hc; exact (nameB_ascii (nameOk_bytes hq) c hc).1) W
        rw [bytes_ofBytes] at HTn
        have HT := Lib.hid HTn
        have HKey := Lib.hid (mbKey (ofBytes p) (ofBytes (lowL q)) (by rw [size_ofBytes]; unfold maxLen; omega) (by rw [size_ofBytes, lowL_length]; unfold maxLen; omega))
        have d1 : domsL (L.take (k + 1)) = domsL (L.take k) := by rw [e1, domsL_snoc, if_pos (cutL_mem hcut)]
        have d2 : mbSet (mboxL (L.take (k + 1))) = (mbSet (mboxL (L.take k))).put (mbLit (ofBytes p) (ofBytes (lowL q))) (.agg []) := by
          rw [e1, mboxL_snoc, hcut, ← mbSet_snoc]; rfl
        have D1 := Lib.hid d1
        have D2 := Lib.hid d2
        clear hany hasc HCn HPn HTn hp hq hcut hasb ey hys e1 hqs hps d1 d2
        generalize ofBytes (lowL q) = B at *
        generalize ofBytes q = B0 at *
        generalize ofBytes p = A at *
        go_wp2_with fail
        refine (HC.out _).mono ?_
        rintro e w1 ⟨rfl, hb1⟩
        have HB1 := Lib.hid hb1
        clear hb1 HC
        go_wp2_with fail
        refine (HP.out _).mono ?_
        rintro e w2 ⟨rfl, hb2⟩
        have HB2 := Lib.hid (Below.next HB1.out hb2)
        clear hb2 HP HB1
        go_wp2_with fail
        refine (HT.out _).mono ?_
        rintro e w3 ⟨rfl, hb3⟩
        have hk3 : w3.heap[w2.heap.size]? = some (.cells #[.string A, .string B0] 73 (0, 0)) := (hb3.block _ (by simp)).trans (blk_new _ _)
        have c0 : w3.cell? ⟨w2.heap.size, 0, none⟩ = some (.string A) := by rw [blk_cell hk3]; rfl
        have c1 : w3.cell? ⟨w2.heap.size, 1, none⟩ = some (.string B0) := by rw [blk_cell hk3]; rfl
        have f1 : w3.frozen? ⟨w2.heap.size, 1, none⟩ = false := by simp [World.frozen?, hk3]
        have hw3 : Below wr.heap.size wr w3 := (HB2.out.trans ((Below.one _ _).mono HB2.out.size)).trans (hb3.mono (by have := HB2.out.size; simp only [World.size_alloc]; omega))
        have hw4 := hw3.setCell (p := ⟨w2.heap.size, 1, none⟩) HB2.out.size (.string B)
        have HB4 := Lib.hid hw4
        have HM4 := Lib.hid (HM.out.next hw4)
        have HO4 := Lib.hid (HO.out.below hw4)
        clear hw3 hw4 hb3 hk3 HM HO HB2 HT
        go_wp2_with (at_mapUpdate; refine wpList_mapUpdate_own _ rfl _ _ _ 77 rfl 73 79 mbKeyed Tryz.underlying77 unitElem w.heap.size k _ rfl HM4.out (by unfold maxLen; omega) _ _ _ rfl rfl HKey.out _ [] unitElem_mk ?_)
        intro w5 hown5 hgrow5
        have HM5 : Hid (MapM (L.take (k + 1)) w.heap.size (k + 1) w5) := by
          show MapM _ _ _ _
          unfold MapM
          rw [D2.out]; exact hown5
        have HO5 : Hid (OwnT w5 (w.heap.size + 1) u6 (domsL (L.take (k + 1)))) := by
          show OwnT _ _ _ _
          rw [D1.out]
          refine World.ownsRow.kept HO4.out hgrow5 ?_
          cases e : u6.ownBlock
          · exact .inl rfl
          · refine .inr fun e2 => ?_
            have := (World.ownsRow.lt HO4.out _ (e.trans e2)).1
            omega
        have HW5 := Lib.hid ((HW.out.trans (HB4.out.mono HW.out.size)).grown hgrow5 (Nat.le_trans HW.out.size HB4.out.size) (fun k hk => by cases hk; exact Nat.le_refl _))
        clear hown5 hgrow5 HM4 HO4 HW HB4 c0 c1 f1
        go_wp2
        go_roundg (L.length - (k + 1))
        case measure => omega
        case rel => exact ⟨k + 1, by omega, by omega, by go_num, HO5.out, HM5.out, HW5.out⟩
      · have hany : (bytes y).any (· == 64) = false := by
          cases e : (bytes y).any (· == 64)
          · rfl
          · exact absurd (any64.1 e) h64
        have hasc : asciiP y := fun j hj => (nameB_ascii hnb _ (by rw [← bytes_ix y j hj (by rw [bytes_length]; exact hj)]; exact List.getElem_mem _)).1
        have HCn := fun W => containsRune_any y (by omega) hasc W
        rw [hany] at HCn
        have HC := Lib.hid HCn
        have d1 : domsL (L.take (k + 1)) = domsL (L.take k) ++ [y] := by rw [e1, domsL_snoc, if_neg h64]
        have d2 : mboxL (L.take (k + 1)) = mboxL (L.take k) := by rw [e1, mboxL_snoc, cutL_none h64]; simp
        have hll : (domsL (L.take k)).length + [y].length ≤ 2147483647 := by
          have h1 := doms_length (L.take k)
          rw [List.length_take] at h1
          simp only [List.length_cons, List.length_nil]
          omega
        have D1 := Lib.hid d1
        have HM2 : Hid (MapM (L.take (k + 1)) w.heap.size (k + 1) wr) := by
          show MapM _ _ _ _
          unfold MapM
          rw [d2]
          exact World.ownsMap.mono HM.out (Nat.le_succ k)
        have hlt0 := HM.out.lt
        clear hany hasc HCn h64 hnb hy0 hys e1 d1 d2 HM
        go_wp2_with fail
        refine (HC.out _).mono ?_
        rintro e w1 ⟨rfl, hb1⟩
        have HB1 := Lib.hid hb1
        have HO1 : Hid (OwnT (w1.alloc (.cells #[.string y] 9)) (w.heap.size + 1) u6 (domsL (L.take k))) := HO.out.below (Below.next hb1 (Below.one _ _))
        have hbs : w.heap.size + 1 ≤ (w1.alloc (.cells #[.string y] 9)).heap.size := by
          have := hb1.size
          simp only [World.size_alloc]
          omega
        have HBS := Lib.hid hbs
        clear hb1 HC HO hbs
        go_wp2_with (at_builtin; refine wpList_more_texts rfl (.tmp 25) (.tmp 27) rfl (w.heap.size + 1) _ (domsL (L.take k)) (some ⟨w1.heap.size, 0, none⟩) 1 1 [y] rfl HO1.out rfl rfl (fun e => (by cases e)) (rd_one w1 y _) hll HBS.out ?_)
        intro v' w2 hown hb2
        rw [← D1.out] at hown
        have HO2 := Lib.hid hown
        have HM3 := Lib.hid (((HM2.out.next HB1.out).next (Below.one _ _)).low (Nat.lt_succ_self _) hb2)
        have HW2 := Lib.hid ((HW.out.trans ((Below.next HB1.out (Below.one _ _)).mono HW.out.size)).trans (hb2.mono (Nat.le_succ _)))
        clear hown hb2 HO1 HM2 HBS HB1
        go_wp2
        go_roundg (L.length - (k + 1))
        case measure => omega
        case rel => exact ⟨k + 1, by omega, by omega, by go_num, HO2.out, HM3.out, HW2.out⟩
    · obtain rfl : k = L.length := by omega
      have ho := HO.out
      have hm := HM.out
      rw [List.take_length] at ho hm
      obtain ⟨A6, c6, rfl, -, -, -, hrd⟩ := ho.rd
      have HRd := Lib.hid hrd
      have HMm := Lib.hid hm
      have HBn : Hid (Below w.heap.size w (wr.alloc (.cells #[.nilIface, .map (some w.heap.size)] 82))) := HW.out.trans ((Below.one _ _).mono HW.out.size)
      have n0 : (wr.alloc (.cells #[.nilIface, .map (some w.heap.size)] 82)).cell? ⟨wr.heap.size, 0, none⟩ = some .nilIface := by rw [blk_cell (blk_new _ _)]; rfl
      have n1 : (wr.alloc (.cells #[.nilIface, .map (some w.heap.size)] 82)).cell? ⟨wr.heap.size, 1, none⟩ = some (.map (some w.heap.size)) := by rw [blk_cell (blk_new _ _)]; rfl
      have N0 := Lib.hid n0
      have N1 := Lib.hid n1
      clear ho hm hrd HO HM hlt hk hg n0 n1
      by_cases hd : domsL L = []
      · have F : Hid (MailPost L w (.returned (.iface 80 (.pointer (some ⟨wr.heap.size, 0, none⟩)))) (wr.alloc (.cells #[.nilIface, .map (some w.heap.size)] 82))) :=
          ⟨_, rfl, ⟨.nilIface, w.heap.size, L.length, N0.out, N1.out, HMm.out.next (Below.one _ _), hl, .inl ⟨hd, rfl⟩⟩, HBn.out⟩
        have hl0 : (domsL L).length = 0 := by rw [hd]; rfl
        clear hd HRd HMm HBn HD HW HR HS N0 N1
        generalize (domsL L).length = m at *
        subst hl0
        go_wp2
        go_ret
        exact F.out
      · have HD2 := Lib.hid (HD.out hd (A6) c6 _ (HRd.out.below (Below.one wr (.cells #[.nilIface, .map (some w.heap.size)] 82))))
        have hl0 : 0 < (domsL L).length := List.length_pos_iff.2 hd
        have hb0 : ((0 : Int) < (domsL L).length) := by omega
        have HNe := Lib.hid hd
        clear hd HRd HD HR HS
        go_wp2_with fail
        refine HD2.out.mono ?_
        rintro e w1 ⟨h, rfl, hD, hb1⟩
        have q0 : w1.cell? ⟨wr.heap.size, 0, none⟩ = some .nilIface := (hb1.cell (p := ⟨wr.heap.size, 0, none⟩) (by simp)).trans N0.out
        have q1 : w1.cell? ⟨wr.heap.size, 1, none⟩ = some (.map (some w.heap.size)) := (hb1.cell (p := ⟨wr.heap.size, 1, none⟩) (by simp)).trans N1.out
        have f0 : w1.frozen? ⟨wr.heap.size, 0, none⟩ = false := (hb1.frozen (p := ⟨wr.heap.size, 0, none⟩) (by simp)).trans (by unfold World.frozen?; rw [blk_new]; rfl)
        have hmlt := HMm.out.lt
        have F : Hid (MailPost L w (.returned (.iface 80 (.pointer (some ⟨wr.heap.size, 0, none⟩)))) (w1.setCell ⟨wr.heap.size, 0, none⟩ (.iface 108 (.pointer (some ⟨h, 0, none⟩))))) := by
          refine ⟨_, rfl, ⟨_, w.heap.size, L.length, World.cell?_setCell_same _ _ _ q0, (World.cell?_setCell_other _ _ _ _ (by intro e; simp at e)).trans q1, World.ownsMap.setCell ((HMm.out.next (Below.one _ _)).next hb1) (by show w.heap.size ≠ wr.heap.size; omega) _, hl, .inr ⟨h, _, HNe.out, rfl, hD.recell _ (by simp) q0⟩⟩, ?_⟩
          exact (HBn.out.trans (hb1.mono HBn.out.size)).setCell (by exact HW.out.size) _
        clear hD hb1 HD2 HMm HBn HW HNe N0 N1 hmlt
        go_wp2
        go_ret
        exact F.out
end Go.Proofs.YtdinnpjplgkffaaGreatDoor
