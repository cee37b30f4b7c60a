/-
  Walk: newIPNetConstraints.
-/
import Derived.Test.YtgaolfbbfdojjaaN13
namespace Go.Proofs.Ytgaolfbbfdojjaa
open Go.ChangeShapes Go.WideShapes Go.ChangeAt Go.RowKit

/-- Two sets behind an interface value. -/
def IpsPost (w : World) (ps : List (Nat × NetA)) (e : Ending) (w' : World) : Prop := ∃ g s8 s9, e = .returned (.iface 87 (.pointer (some ⟨g, 0, none⟩))) ∧ w'.cell? ⟨g, 0, none⟩ = some s8 ∧ w'.cell? ⟨g, 1, none⟩ = some s9 ∧ Two w (F4 ps) (F6 ps) s8 s9 w'
theorem LoopN.held {w W : World} {ps : List (Nat × NetA)} {k : Nat} {v3 v4 : Value} {p : Nat × NetA} (h : LoopN w ps k v3 v4 W) (hp : IsN w p) : W.cell? ⟨p.1, 0, none⟩ = some (.slice p.2.A p.2.ad.length p.2.c) ∧ W.cell? ⟨p.1, 1, none⟩ = some (.slice p.2.M p.2.ms.length p.2.d) ∧ LoopN w ps k v3 v4 W :=
  ⟨(hp.1.below h.old).cells.1, (hp.1.below h.old).cells.2, h⟩
theorem PtrN.ptr {w W : World} {m : Nat} {s : Value} {cs : Option (Nat × Nat)} {L : List (Nat × NetA)} (h : PtrN w m s cs L W) : ∃ x, s = .pointer x := by
  rcases h with ⟨-, e, -⟩ | ⟨c, blk, -, e, -⟩
  · exact ⟨_, e⟩
  · exact ⟨_, e⟩
set_option maxRecDepth 100000 in
set_option maxHeartbeats 2000000 in
theorem newIP_any (A : Option Addr) (n c : Nat) (ps : List (Nat × NetA)) (w : World) (hn : n = ps.length) (hl : ps.length ≤ 2147483647) (hne : ps ≠ []) (hr : Rd w A (ps.map encP)) (hs : ∀ p ∈ ps, IsN w p) :
    Calls Try.prog 37 #[.slice A n c] w (IpsPost w ps) := by
  subst hn
  have HR := Lib.hid hr
  have HS := Lib.hid hs
  have h0 : ((ps.length : Int) == 0) = false := by
    have := List.length_pos_iff.2 hne
    rw [beq_eq_false_iff_ne]; omega
  have hE := fun wx a n c n' c' => run_neq_slice_nil_any (P := Try.prog) wx 53 5 a n c n' c' Try.underlying53
  have L0 : Aside (LoopN w ps 0 (.slice none 0 0) (.slice none 0 0) w) := LoopN.start w ps
  clear hr hs hne
  go_enter Try.func37, Try.ntmps37
  go_wp2
  go_loopg [3, 4, 15] ps.length (fun kx s3 s4 s15 wr => ∃ k : Nat, s15 = .int .i64 k ∧ k ≤ ps.length ∧ ps.length - k ≤ kx ∧ Aside (LoopN w ps k s3 s4 wr))
  case atStart => exact ⟨0, rfl, by omega, by omega, L0⟩
  case round =>
    clear L0
    obtain ⟨k, rfl, hk, hg, HL⟩ := hrel
    by_cases hlt : k < ps.length
    · have hp := HS.out _ (List.getElem_mem hlt)
      obtain ⟨ad, rfl, -, cp⟩ := (HR.out.below HL.out.old) k (encP ps[k]) (by rw [List.getElem?_map, List.getElem?_eq_getElem hlt]; rfl)
      obtain ⟨p, hpk⟩ : ∃ p, ps[k] = p := ⟨_, rfl⟩
      rw [hpk] at hp cp
      unfold encP at cp
      have HP := Lib.hid hp
      have HK := Lib.hid hpk
      have HM : Hid (∀ W, LoopN w ps k u3 u4 W → Calls Try.prog 42 #[.slice p.2.A p.2.ad.length p.2.c, .slice p.2.M p.2.ms.length p.2.d] W (MaskPost p.2.ad W)) := fun W h => mask_any p.2 W (hp.1.below h.old).2 hp.g
      have hlk : (F4 (ps.take k)).length ≤ 2147483647 ∧ (F6 (ps.take k)).length ≤ 2147483647 := by
        have h1 := List.length_filter_le (fun p : Nat × NetA => p.2.ad.length == 4) (ps.take k)
        have h2 := List.length_filter_le (fun p : Nat × NetA => !(p.2.ad.length == 4)) (ps.take k)
        have h3 := List.length_take_le k ps
        unfold F4 F6
        omega
      obtain ⟨hl4, hl6⟩ := hlk
      clear hp hpk
      go_wp2_with fail
      go_region_held3 (fun W' => W'.cell? ⟨p.1, 0, none⟩ = some (.slice p.2.A p.2.ad.length p.2.c) ∧ W'.cell? ⟨p.1, 1, none⟩ = some (.slice p.2.M p.2.ms.length p.2.d) ∧ LoopN w ps k u3 u4 W')
        (first | exact LoopN.held (HL.out.below ((Below.refl _ _).drew)) HP.out | exact LoopN.held (by assumption) HP.out)
        (first | (go_split_ands; (with_reducible refine (HM.out _ (by assumption)).mono ?_); rintro e wa ⟨B, rfl, hrb, hba⟩; have hsa := LoopN.below (by assumption) hba))
      go_split_ands
      have HLa := Lib.hid hsa
      have HPa := Lib.hid (HP.out.1.below HLa.out.old)
      have HQ : Hid (Calls Try.prog 43 #[.slice (some ⟨B, 0, none⟩) p.2.ad.length p.2.ad.length, .slice p.2.A p.2.ad.length p.2.c] wa (Same (.bool true) wa)) := ipEqual_any _ _ _ _ _ _ p.2.ad wa rfl rfl hrb HPa.out.2.1
      obtain ⟨d0, d1⟩ := HPa.out.cells
      have he := hE
      by_cases h4 : p.2.ad.length = 4
      · have h4' : ((p.2.ad.length : Int) == 4) = true := by rw [h4]; rfl
        have H4 := Lib.hid h4
        clear h4 hsa hba hrb
        go_wp2_with (first | ((with_reducible refine HQ.out.mono ?_); rintro e wb ⟨rfl, rfl⟩) | (at_builtin; refine wpList_push_ptr rfl (.tmp 52) (.tmp 54) rfl w.heap.size _ (F4 (ps.take k)) p rfl HLa.out.own4 rfl hl4 HLa.out.old.size ?_))
        intro v' w2 hown hgr hat
        have HL2 := Lib.hid (HLa.out.push4 hlt (by rw [HK.out]; exact H4.out) (by rw [HK.out]; exact hown) hgr hat)
        clear hown hgr hat d0 d1
        go_wp2
        go_roundg (ps.length - (k + 1))
        case measure => omega
        case rel => exact ⟨k + 1, by go_num, by omega, by omega, HL2.out⟩
      · have h4' : ((p.2.ad.length : Int) == 4) = false := by rw [beq_eq_false_iff_ne]; omega
        have H4 := Lib.hid h4
        clear h4 hsa hba hrb
        go_wp2_with (first | ((with_reducible refine HQ.out.mono ?_); rintro e wb ⟨rfl, rfl⟩) | (at_builtin; refine wpList_push_ptr rfl (.tmp 56) (.tmp 58) rfl w.heap.size _ (F6 (ps.take k)) p rfl HLa.out.own6 rfl hl6 HLa.out.old.size ?_))
        intro v' w2 hown hgr hat
        have HL2 := Lib.hid (HLa.out.push6 hlt (by rw [HK.out]; exact H4.out) (by rw [HK.out]; exact hown) hgr hat)
        clear hown hgr hat d0 d1
        go_wp2
        go_roundg (ps.length - (k + 1))
        case measure => omega
        case rel => exact ⟨k + 1, by go_num, by omega, by omega, HL2.out⟩
    · obtain rfl : k = ps.length := by omega
      obtain ⟨o4, o6, hap, hold⟩ := HL.out
      rw [List.take_length] at o4 o6
      clear hlt hg hk hE h0 HL
      have a4 : ∀ p ∈ F4 ps, IsN w p ∧ p.2.ad.length = 4 ∧ 4 ≤ 16 := fun p hp => by
        have := List.mem_filter.1 hp
        exact ⟨HS.out p this.1, by simpa using this.2, by omega⟩
      have a6 : ∀ p ∈ F6 ps, IsN w p ∧ p.2.ad.length = 16 ∧ 16 ≤ 16 := fun p hp => by
        have := List.mem_filter.1 hp
        have h1 := HS.out p this.1
        have h2 := h1.2.1.len
        have h3 : p.2.ad.length ≠ 4 := by simpa using this.2
        exact ⟨h1, by omega, Nat.le_refl _⟩
      have l4 : (F4 ps).length ≤ 2147483647 := Nat.le_trans (List.length_filter_le _ _) hl
      have l6 : (F6 ps).length ≤ 2147483647 := Nat.le_trans (List.length_filter_le _ _) hl
      have AL4 := Lib.hid a4
      have AL6 := Lib.hid a6
      clear a4 a6
      obtain ⟨L4, hL4⟩ : ∃ L, L = F4 ps := ⟨_, rfl⟩
      obtain ⟨L6, hL6⟩ : ∃ L, L = F6 ps := ⟨_, rfl⟩
      rw [← hL4] at AL4 o4 l4
      rw [← hL6] at AL6 o6 l6
      have HL4 := Lib.hid hL4
      have HL6 := Lib.hid hL6
      clear hL4 hL6
      obtain ⟨A4, c4, rfl, -⟩ := Rd.own o4
      obtain ⟨A6, c6, rfl, -⟩ := Rd.own o6
      have O4 := Lib.hid o4
      have O6 := Lib.hid o6
      have AP := Lib.hid hap
      have OL := Lib.hid hold
      clear o4 o6 hap hold
      obtain ⟨n4, hn4⟩ : ∃ n, L4.length = n := ⟨_, rfl⟩
      obtain ⟨n6, hn6⟩ : ∃ n, L6.length = n := ⟨_, rfl⟩
      rw [hn4] at O4 AP ⊢
      rw [hn6] at O6 AP ⊢
      have HN4 := Lib.hid hn4
      have HN6 := Lib.hid hn6
      have z4 : n4 ≤ 2147483647 := by omega
      have z6 : n6 ≤ 2147483647 := by omega
      clear hn4 hn6 l4 l6
      go_upto_if 63 with fail
      go_cut [8] (fun s8 wx => ∃ cs, Aside (One w L4 L6 (.slice A6 n6 c6) s8 cs wx))
      case first =>
        by_cases hn : n4 = 0
        · subst hn
          have F : Hid (One w L4 L6 (.slice A6 n6 c6) (.pointer none) none wr) := ⟨.inl ⟨List.length_eq_zero_iff.1 HN4.out, rfl, rfl⟩, O6.out, fun c blk e => (by cases e), OL.out⟩
          clear O4 O6 AP OL
          go_wp2
          go_meet
          case rel => exact ⟨none, F.out⟩
        · have hne : L4 ≠ [] := fun e => hn (by rw [← HN4.out, e]; rfl)
          obtain ⟨g, cap, d, inst, HF, hob⟩ := set_start 85 O4.out hne AL4.out OL.out
          have hv := HF.hv
          obtain ⟨W1, hW1⟩ : ∃ W1, wr.alloc (.cells #[.slice A4 n4 c4] 85) = W1 := ⟨_, rfl⟩
          have hb1 : Below wr.heap.size wr W1 := by rw [← hW1]; exact Below.one _ _
          have hsz1 : W1.heap.size = wr.heap.size + 1 := by rw [← hW1]; simp
          rw [hW1] at HF
          simp only [Value.slice.injEq] at hv
          obtain ⟨rfl, -, rfl⟩ := hv
          have hpos : 0 < n4 := by omega
          have hds : d.size ≤ 2147483647 := by
            have h1 : d.size = L4.length := by rw [← HF.hd, List.length_map, Array.length_toList]
            have h2 := HN4.out
            omega
          have HC := Lib.hid (sapN_any W1 wr.heap.size g 0 c4 d W1 HF.row HF.hg HF.hc HF.hne hds HF.hcap)
          have hS : Hid (∀ e w', SapPost NetEl.enc NetEl.cf NetEl.sub w W1 wr.heap.size g 0 c4 d e w' → e = .returned (.tuple #[]) ∧ One w L4 L6 (.slice A6 n6 c6) (.pointer (some ⟨wr.heap.size, 0, none⟩)) (some (wr.heap.size, g)) w') := fun e w' h => by
            obtain ⟨he, hp⟩ := h
            obtain ⟨hs, hk⟩ := set_done HF (by have := HN4.out; omega) hne hp
            obtain ⟨d', -, -, hrow⟩ := hp
            have hgl : g < wr.heap.size := (World.ownsRow.lt O4.out g rfl).2
            have hks := hk.size
            have hap : ∀ b, (Value.slice A6 n6 c6).ownBlock = some b → b ≠ wr.heap.size ∧ b ≠ g := fun b eb => by
              have h1 := (World.ownsRow.lt O6.out b eb).2
              refine ⟨by omega, fun e2 => ?_⟩
              subst e2
              exact AP.out b rfl eb
            refine ⟨he, .inr ⟨_, _, rfl, rfl, hs, by omega, by omega⟩, own_far (OwnL.below O6.out hb1) hk hap, fun c blk e2 => ?_, hrow.old⟩
            simp only [Option.some.injEq, Prod.mk.injEq] at e2
            obtain ⟨rfl, rfl⟩ := e2
            exact ⟨fun e3 => (hap _ e3).1 rfl, fun e3 => (hap _ e3).2 rfl⟩
          have HW := Lib.hid hW1
          clear HF hn hne hb1 hsz1 hob hW1 hds O4 O6 AP OL AL4 AL6
          go_wp2_with fail
          rw [HW.out]
          refine HC.out.mono ?_
          intro e w2 h2
          obtain ⟨rfl, hO⟩ := hS.out e w2 h2
          have HO := Lib.hid hO
          clear h2 hO HC hS
          go_wp2
          go_meet
          case rel => exact ⟨_, HO.out⟩
      case rest =>
        obtain ⟨wx, rfl⟩ : ∃ wx : World, wx = wc := ⟨_, rfl⟩
        obtain ⟨cs, HO⟩ := hcut
        clear O4 O6 AP OL
        go_upto_if 71 with fail
        go_cut [9] (fun s9 wx => Aside (Two w L4 L6 u8 s9 wx))
        case first =>
          by_cases hn : n6 = 0
          · subst hn
            have F : Hid (Two w L4 L6 u8 (.pointer none) wx) := ⟨⟨_, HO.out.set⟩, ⟨none, .inl ⟨List.length_eq_zero_iff.1 HN6.out, rfl, rfl⟩⟩, HO.out.old⟩
            clear HO
            go_wp2
            go_meet
            case rel => exact F.out
          · have hne : L6 ≠ [] := fun e => hn (by rw [← HN6.out, e]; rfl)
            obtain ⟨g, cap, d, inst, HF, hob⟩ := set_start 85 HO.out.own hne AL6.out HO.out.old
            have hv := HF.hv
            obtain ⟨W1, hW1⟩ : ∃ W1, wx.alloc (.cells #[.slice A6 n6 c6] 85) = W1 := ⟨_, rfl⟩
            have hb1 : Below wx.heap.size wx W1 := by rw [← hW1]; exact Below.one _ _
            have hsz1 : W1.heap.size = wx.heap.size + 1 := by rw [← hW1]; simp
            rw [hW1] at HF
            simp only [Value.slice.injEq] at hv
            obtain ⟨rfl, -, rfl⟩ := hv
            have hpos : 0 < n6 := by omega
            have hds : d.size ≤ 2147483647 := by
              have h1 : d.size = L6.length := by rw [← HF.hd, List.length_map, Array.length_toList]
              have h2 := HN6.out
              omega
            have HC := Lib.hid (sapN_any W1 wx.heap.size g 0 c6 d W1 HF.row HF.hg HF.hc HF.hne hds HF.hcap)
            have hS : Hid (∀ e w', SapPost NetEl.enc NetEl.cf NetEl.sub w W1 wx.heap.size g 0 c6 d e w' → e = .returned (.tuple #[]) ∧ Two w L4 L6 u8 (.pointer (some ⟨wx.heap.size, 0, none⟩)) w') := fun e w' h => by
              obtain ⟨he, hp⟩ := h
              obtain ⟨hs, hk⟩ := set_done HF (by have := HN6.out; omega) hne hp
              obtain ⟨d', -, -, hrow⟩ := hp
              have hgl : g < wx.heap.size := (World.ownsRow.lt HO.out.own g rfl).2
              have hks := hk.size
              refine ⟨he, ⟨cs, (HO.out.set.next hb1).far hk hrow.old fun c blk e2 => ?_⟩, ⟨_, .inr ⟨_, _, rfl, rfl, hs, by omega, by omega⟩⟩, hrow.old⟩
              have hap := HO.out.apart c blk e2
              rcases HO.out.set with ⟨-, -, e3⟩ | ⟨c', blk', e3, -, -, q1, q2⟩
              · rw [e2] at e3; cases e3
              · rw [e2] at e3
                simp only [Option.some.injEq, Prod.mk.injEq] at e3
                obtain ⟨rfl, rfl⟩ := e3
                exact ⟨by omega, fun e4 => hap.1 (by rw [e4]; rfl), by omega, fun e4 => hap.2 (by rw [e4]; rfl)⟩
            have HW := Lib.hid hW1
            clear HF hn hne hb1 hsz1 hob hW1 hds HO AL4 AL6
            go_wp2_with fail
            rw [HW.out]
            refine HC.out.mono ?_
            intro e w2 h2
            obtain ⟨rfl, hO⟩ := hS.out e w2 h2
            have HO := Lib.hid hO
            clear h2 hO HC hS
            go_wp2
            go_meet
            case rel => exact HO.out
        case rest =>
          clear HO
          obtain ⟨wy, rfl⟩ : ∃ wy : World, wy = wc := ⟨_, rfl⟩
          have HT := Lib.hid hcut.out
          clear hcut
          obtain ⟨x8, rfl⟩ := HT.out.set4.elim fun _ h => h.ptr
          obtain ⟨x9, rfl⟩ := HT.out.set6.elim fun _ h => h.ptr
          have F : Hid (IpsPost w ps (.returned (.iface 87 (.pointer (some ⟨wy.heap.size, 0, none⟩)))) (wy.alloc (.cells #[.pointer x8, .pointer x9] 89))) :=
            ⟨wy.heap.size, .pointer x8, .pointer x9, rfl, by rw [blk_cell (blk_new wy _)]; rfl, by rw [blk_cell (blk_new wy _)]; rfl, HL4.out ▸ HL6.out ▸ HT.out.next (Below.one _ _)⟩
          clear HT
          go_wp2
          go_ret
          exact F.out
end Go.Proofs.Ytgaolfbbfdojjaa
