/-
  Walk: parseRFC2821Mailbox. Texts of at most 2^30 bytes.
-/
import Derived.Test.YtdinnpjplgkffaaGreatDoorM1
import Derived.Test.YtdinnpjplgkffaaGreatDoorM4
import Derived.Test.YtdinnpjplgkffaaGreatDoorPMail
import Derived.Deep.DeepCutAuto
import Derived.Deep.CutBlock
import Derived.Deep.Light
import Derived.BigGuardPart
import Derived.Test.YtdinnpjplgkffaaGreatDoorG1
import Derived.Maps.RangeWalk
namespace Go.Proofs.YtdinnpjplgkffaaGreatDoor
open Go.RowKit

/-- A mailbox, or none. -/
def mailV : Option (List UInt8 × List UInt8) → Value
  | none => .tuple #[.agg #[.string ⟨#[]⟩, .string ⟨#[]⟩], .bool false]
  | some p => .tuple #[.agg #[.string (ofBytes p.1), .string (ofBytes p.2)], .bool true]
theorem bytes_cons {t : ByteArray} (h : 0 < t.size) : bytes t = t[0]'h :: bytes (t.extract 1 t.size) := by
  have := drop_cons h
  rw [List.drop_zero] at this
  rw [this, bytes_extract, List.take_of_length_le]
  rw [List.length_drop, bytes_length]; omega
/-- The mailbox's block is as it was laid, all older memory as it was. -/
def MailW (w w' : World) : Prop := Below w.heap.size w w' ∧ w'.heap[w.heap.size]? = some (.cells #[.string ⟨#[]⟩, .string ⟨#[]⟩] 73 (0, 0))
theorem MailW.start (w : World) : MailW w (w.alloc (.cells #[.string ⟨#[]⟩, .string ⟨#[]⟩] 73)) := ⟨Below.one _ _, blk_new _ _⟩
theorem MailW.next {w a b : World} (h : MailW w a) (k : Below (w.heap.size + 1) a b) : MailW w b := ⟨h.1.trans (k.mono (by omega)), (k.block _ (by omega)).trans h.2⟩
theorem MailW.size {w a : World} (h : MailW w a) : w.heap.size + 1 ≤ a.heap.size := blk_lt h.2
theorem MailW.cells {w a : World} (h : MailW w a) : a.cell? ⟨w.heap.size, 0, none⟩ = some (.string ⟨#[]⟩) ∧ a.cell? ⟨w.heap.size, 1, none⟩ = some (.string ⟨#[]⟩) ∧ a.frozen? ⟨w.heap.size, 0, none⟩ = false ∧ a.frozen? ⟨w.heap.size, 1, none⟩ = false :=
  ⟨by rw [blk_cell h.2]; rfl, by rw [blk_cell h.2]; rfl, by simp [World.frozen?, h.2], by simp [World.frozen?, h.2]⟩
theorem twoP_iff (l : List UInt8) : twoP (ofBytes l) ↔ ∃ j, ∃ h : j + 1 < l.length, l[j]'(by omega) = 46 ∧ l[j + 1]'h = 46 := by
  have hg : ∀ j (h : j < (ofBytes l).size) (h' : j < l.length), (ofBytes l)[j]'h = l[j]'h' := fun j h h' => by
    have h2 : j < (bytes (ofBytes l)).length := by rw [bytes_ofBytes]; exact h'
    refine (bytes_ix (ofBytes l) j h h2).symm.trans ?_
    simp only [bytes_ofBytes]
  unfold twoP
  constructor
  · rintro ⟨j, h, h1, h2⟩
    have h' : j + 1 < l.length := by rw [size_ofBytes] at h; exact h
    rw [hg j (by omega) (by omega)] at h1
    rw [hg (j + 1) h h'] at h2
    exact ⟨j, h', h1, h2⟩
  · rintro ⟨j, h, h1, h2⟩
    have h' : j + 1 < (ofBytes l).size := by rw [size_ofBytes]; exact h
    exact ⟨j, h', by rw [hg j (by omega) (by omega)]; exact h1, by rw [hg (j + 1) h' h]; exact h2⟩
theorem four_cells {w : World} {g : Nat} (x y : Value) {u : Value} (h : w.cell? ⟨g, 1, none⟩ = some u) :
    ((((w.setCell ⟨g, 0, none⟩ x).setCell ⟨g, 1, none⟩ y).setCell ⟨g, 0, none⟩ x).setCell ⟨g, 1, none⟩ y).cell? ⟨g, 1, none⟩ = some y := by
  have o : ∀ (W : World) v, (W.setCell ⟨g, 0, none⟩ v).cell? ⟨g, 1, none⟩ = W.cell? ⟨g, 1, none⟩ := fun W v => World.cell?_setCell_other _ _ _ _ (by intro e; simp at e)
  exact World.cell?_setCell_same _ _ _ ((o _ _).trans (World.cell?_setCell_same _ _ _ ((o _ _).trans h)))
theorem validL_ascii {s : ByteArray} {c : Bool} (h : validL (bytes s) c = true) : asciiP s := by
  intro j hj
  have hm : s[j] ∈ bytes s := by
    have hj' : j < (bytes s).length := by rw [bytes_length]; exact hj
    rw [← bytes_ix s j hj hj']
    exact List.getElem_mem hj'
  have hv : ∀ l : List UInt8, validN l = true → ∀ c ∈ l, c.toNat < 128 := fun l hl c hc => by
    unfold validN at hl
    rw [Bool.and_eq_true, List.all_eq_true] at hl
    have := hl.1 c hc
    unfold visB at this
    simp only [Bool.and_eq_true, decide_eq_true_eq] at this
    omega
  unfold validL at h
  rw [Bool.or_eq_true] at h
  rcases h with h | h
  · rw [List.isEmpty_iff] at h
    rw [h] at hm
    simp at hm
  · rw [Bool.and_eq_true] at h
    have h2 := h.2
    split at h2
    · rename_i hc
      rw [Bool.and_eq_true, beq_iff_eq] at hc
      cases hb : bytes s with
      | nil => rw [hb] at hm; simp at hm
      | cons x r =>
        rw [hb] at hm h2 hc
        rcases List.mem_cons.1 hm with e | hm
        · rw [e]
          have : x = 46 := by simpa using hc.2
          rw [this]; decide
        · exact hv _ h2 _ (by simpa using hm)
    · exact hv _ h2 _ hm
theorem OwnB.below {w w' : World} {base : Nat} {v : Value} {l : List UInt8} (h : OwnB w base v l) (hb : Below w.heap.size w w') : OwnB w' base v l := own_below h hb
theorem OwnB.row {w : World} {base : Nat} {v : Value} {l : List UInt8} (h : OwnB w base v l) (hl : l ≠ []) :
    ∃ g cap, v = .slice (some ⟨g, 0, none⟩) l.length cap ∧ l.length ≤ cap ∧ cap ≤ maxLen ∧ g < w.heap.size ∧ ∀ i (h : i < l.length), w.cell? ⟨g, i, none⟩ = some (.int .u8 ((l[i]).toNat : Int)) := by
  obtain ⟨A, cap, rfl, hn, hc, hr, -⟩ := Rd.own h
  have h0 : 0 < l.length := List.length_pos_iff.2 hl
  obtain ⟨h1, h2⟩ := h
  rcases h2 with ⟨e, -⟩ | ⟨g, cap', cur, e, -, hh, -, -, -, -⟩
  · injection e with e1 e2 e3
    omega
  · injection e with e1 e2 e3
    subst e1
    refine ⟨g, cap, rfl, hn, hc, blk_lt hh, fun i hi => ?_⟩
    obtain ⟨ad, he, -, hcell⟩ := hr i _ (u8s_get hi)
    obtain rfl := Option.some.inj he
    have hadd : (⟨g, 0, none⟩ : Addr).add i = ⟨g, i, none⟩ := by simp [Addr.add]; intro h; exact h.symm
    rw [hadd] at hcell
    exact hcell
set_option maxHeartbeats 8000000 in
set_option maxRecDepth 100000 in
theorem parse_any (s : ByteArray) (hs : s.size ≤ 1073741824) (w : World) :
    Calls Tryz.prog 37 #[.string s] w (Ret (mailV (parseM (bytes s))) w) := by
  have hmax : (2147483648 : Nat) ≤ maxLen := by unfold maxLen; omega
  obtain ⟨i0, hi, hz0, hz1, hz2⟩ := info_parts info_u8
  by_cases h0 : s.size = 0
  · have F := Lib.hid (show parseM (bytes s) = none by rw [show bytes s = [] from List.eq_nil_of_length_eq_zero (by rw [bytes_length]; exact h0)]; rfl)
    have h0' : ((s.size : Int) == 0) = true := by simp [h0]
    clear h0
    go_enter Tryz.func37, Tryz.ntmps37
    go_wp2
    exact bodyPost_ret (v := mailV none) (by simp [mailV, results, Tryz.results37, go_sem]) rfl ⟨by rw [F.out], Below.one _ _⟩
  have h0' : ((s.size : Int) == 0) = false := by rw [beq_eq_false_iff_ne]; omega
  have hpos : 0 < s.size := by omega
  clear h0
  go_enter Tryz.func37, Tryz.ntmps37
  go_upto_if 18 with (at_make; refine wpList_make_own _ rfl (.const (.int .i64 0)) (.tmp 14) 70 rfl (w.heap.size + 1) 5 i0 _ 1 Tryz.underlying70 hi hz0 hz1 .i64 .i64 _ (s.size / 2) rfl rfl ?c1 ?c2 ?c3 ?c4 ?_)
  case c1 => omega
  case c2 => rw [hz2]; omega
  case c3 => omega
  case c4 => simp
  intro w2 hown0 hgr0
  have HM0 := Lib.hid ((MailW.start w).next ((Below.refl _ _).grown hgr0 (by simp) (fun k hk => by cases hk)))
  have HO0 := Lib.hid (show OwnB w2 (w.heap.size + 1) _ [] from hown0)
  clear hown0 hgr0
  go_upto_if 18 with fail
  go_cut [0, 4] (fun s0 s4 wx => ∃ (t : ByteArray) (acc : List UInt8), s0 = .string t ∧ t.size ≤ s.size ∧ acc.length ≤ s.size ∧ Aside (OwnB wx (w.heap.size + 1) s4 acc) ∧ Aside (finishM (acc, bytes t) = parseM (bytes s)) ∧ Aside (MailW w wx))
  case first =>
    by_cases hq : (s[0]'hpos).toNat = 34
    · as_aux_lemma =>
      have hq' : (((s[0]'hpos).toNat : Int) == 34) = true := by simp [hq]
      have HR : Hid ((parseQ (bytes (s.extract 1 s.size)) []).bind finishM = parseM (bytes s)) := by
        show _ = _
        have e : s[0]'hpos = 34 := UInt8.toNat_inj.1 hq
        rw [bytes_cons hpos, e]
        unfold parseM
        simp only [if_true]
      clear hq
      go_wp2
      rename (((s[0]'hpos).toNat : Int) == 34) = true => hq2
      clear hq' hq2
      go_step3
      go_wp2
      go_step3
      go_wp2
      go_loopg [0, 4] (s.size + 1) (fun kx s0 s4 wr => ∃ (t : ByteArray) (acc : List UInt8), s0 = .string t ∧ t.size + 1 ≤ kx ∧ t.size ≤ s.size ∧ acc.length + t.size ≤ s.size ∧ Aside (OwnB wr (w.heap.size + 1) s4 acc) ∧ Aside ((parseQ (bytes t) acc).bind finishM = parseM (bytes s)) ∧ Aside (MailW w wr))
      case atStart => exact ⟨s.extract 1 s.size, [], rfl, by rw [ByteArray.size_extract]; omega, by rw [ByteArray.size_extract]; omega, by rw [ByteArray.size_extract]; simp, HO0.out, HR.out, HM0.out⟩
      case round =>
        as_aux_lemma =>
        clear HO0 HR HM0
        obtain ⟨t, acc, rfl, hg, ht, hacc, HO, HQ, HM⟩ := hrel
        obtain ⟨c0, c1, f0, f1⟩ := HM.out.cells
        by_cases ht0 : t.size = 0
        · have F : Hid (parseM (bytes s) = none) := by
            show _ = _
            rw [← HQ.out, show bytes t = [] from List.eq_nil_of_length_eq_zero (by rw [bytes_length]; exact ht0), parseQ_nil]; rfl
          have ht0' : ((t.size : Int) == 0) = true := by simp [ht0]
          clear ht0 HO HQ
          go_wp2
          rw [Exit.noGoto_ret]
          exact bodyPost_ret (v := mailV none) (by simp [mailV, results, Tryz.results37, go_sem, c0, c1]) rfl ⟨by rw [F.out], (HM.out.1.setCell (p := ⟨w.heap.size, 0, none⟩) (Nat.le_refl _) _).setCell (p := ⟨w.heap.size, 1, none⟩) (Nat.le_refl _) _⟩
        have ht0' : ((t.size : Int) == 0) = false := by rw [beq_eq_false_iff_ne]; omega
        have htp : 0 < t.size := by omega
        rw [bytes_cons htp] at HQ
        clear ht0
        by_cases h34 : t[0]'htp = 34
        · have h1 : (((t[0]'htp).toNat : Int) == 34) = true := by rw [h34]; rfl
          have HF : Hid (finishM (acc, bytes (t.extract 1 t.size)) = parseM (bytes s)) := by
            show _ = _
            rw [← HQ.out, h34, parseQ_quote]; rfl
          clear h34 HQ
          go_wp2_with fail
          rw [Exit.noGoto_normal]
          go_wp2_with fail
          go_meet
          case rel => exact ⟨_, acc, rfl, by rw [ByteArray.size_extract]; omega, by omega, HO, HF, HM⟩
        have h1 : (((t[0]'htp).toNat : Int) == 34) = false := by rw [beq_c (d := 34) (n := 34) rfl]; simpa using h34
        by_cases h92 : t[0]'htp = 92
        · have h2 : (((t[0]'htp).toNat : Int) == 92) = true := by rw [h92]; rfl
          rw [h92] at HQ
          clear h34 h92
          have hs1 : (t.extract 1 t.size).size = t.size - 1 := by rw [ByteArray.size_extract]; omega
          by_cases ht1 : t.size = 1
          · have F : Hid (parseM (bytes s) = none) := by
              show _ = _
              rw [← HQ.out, show bytes (t.extract 1 t.size) = [] from List.eq_nil_of_length_eq_zero (by rw [bytes_length, hs1]; omega), parseQ_esc0]; rfl
            have h3 : (((t.size - 1 : Nat) : Int) == 0) = true := by rw [beq_iff_eq]; omega
            clear ht1 HO HQ hs1
            go_wp2
            rw [Exit.noGoto_ret]
            exact bodyPost_ret (v := mailV none) (by simp [mailV, results, Tryz.results37, go_sem, c0, c1]) rfl ⟨by rw [F.out], (HM.out.1.setCell (p := ⟨w.heap.size, 0, none⟩) (Nat.le_refl _) _).setCell (p := ⟨w.heap.size, 1, none⟩) (Nat.le_refl _) _⟩
          have h3 : (((t.size - 1 : Nat) : Int) == 0) = false := by rw [beq_eq_false_iff_ne]; omega
          have h1p : 0 < (t.extract 1 t.size).size := by omega
          have HS1 := Lib.hid hs1
          have h4 : 0 < t.size - 1 := by omega
          rw [bytes_cons h1p] at HQ
          clear ht1 hs1
          have HN : Hid (qpairB ((t.extract 1 t.size)[0]'h1p) = false → parseM (bytes s) = none) := by
            show _ → _
            intro hq
            rw [← HQ.out, parseQ_esc_no _ _ hq]; rfl
          have e1 : (t.extract 1 t.size).extract 1 (t.extract 1 t.size).size = (t.extract 1 t.size).extract 1 (t.size - 1) := by rw [HS1.out]
          have HY : Hid (qpairB ((t.extract 1 t.size)[0]'h1p) = true → (parseQ (bytes ((t.extract 1 t.size).extract 1 (t.size - 1))) (acc ++ [(t.extract 1 t.size)[0]'h1p])).bind finishM = parseM (bytes s)) := by
            show _ → _
            intro hq
            rw [← HQ.out, parseQ_esc _ _ hq, e1]
          clear e1
          clear HQ
          go_upto_region 15 with fail
          go_cut [67] (fun s67 wx => s67 = .bool (qpairB ((t.extract 1 t.size)[0]'h1p)) ∧ wx = wr)
          case first =>
            go_wp2_with fail
            all_goals
              go_meet
              case rel =>
                refine ⟨congrArg Value.bool (Eq.symm ?_), rfl⟩
                go_light
                rw [Bool.eq_iff_iff]
                unfold qpairB
                simp only [iff_true, iff_false, reduceCtorEq, Bool.or_eq_true, Bool.and_eq_true, decide_eq_true_eq, beq_iff_eq, ← UInt8.toNat_inj, UInt8.toNat_ofNat]
                omega
          case rest =>
            as_aux_lemma =>
            obtain ⟨rfl, rfl⟩ := hcut
            cases hb : qpairB ((t.extract 1 t.size)[0]'h1p)
            · have F := Lib.hid (HN.out hb)
              clear hb HN HY HO
              go_wp2
              rw [Exit.noGoto_ret]
              exact bodyPost_ret (v := mailV none) (by simp [mailV, results, Tryz.results37, go_sem, c0, c1]) rfl ⟨by rw [F.out], (HM.out.1.setCell (p := ⟨w.heap.size, 0, none⟩) (Nat.le_refl _) _).setCell (p := ⟨w.heap.size, 1, none⟩) (Nat.le_refl _) _⟩
            · have HQ := Lib.hid (HY.out hb)
              clear hb HN HY
              go_wp2_with (at_builtin; refine wpList_push_byte rfl (.tmp 68) (.tmp 71) rfl (w.heap.size + 1) _ acc ((t.extract 1 t.size)[0]'h1p) _ rfl rfl HO.out rfl (by omega) HM.out.size ?_)
              intro v1 w1 hown1 hb1
              have HO1 := Lib.hid hown1
              have HM1 := Lib.hid (HM.out.next hb1)
              clear hown1 hb1 HO HM c0 c1 f0 f1
              go_wp2
              go_roundg (t.size - 1)
              case measure => omega
              case rel => exact ⟨_, _, rfl, by rw [ByteArray.size_extract, HS1.out]; omega, by rw [ByteArray.size_extract, HS1.out]; omega, by rw [ByteArray.size_extract, List.length_append, HS1.out]; simp; omega, HO1.out, HQ.out, HM1.out⟩
        · have h2 : (((t[0]'htp).toNat : Int) == 92) = false := by rw [beq_c (d := 92) (n := 92) rfl]; simpa using h92
          have HN : Hid (qtextB (t[0]'htp) = false → parseM (bytes s) = none) := by
            show _ → _
            intro hq
            rw [← HQ.out, parseQ_no _ _ h34 h92 hq]; rfl
          have HY : Hid (qtextB (t[0]'htp) = true → (parseQ (bytes (t.extract 1 t.size)) (acc ++ [t[0]'htp])).bind finishM = parseM (bytes s)) := by
            show _ → _
            intro hq
            rw [← HQ.out, parseQ_text _ _ h34 h92 hq]
          clear h34 h92 HQ
          go_upto_region 19 with fail
          go_cut [76] (fun s76 wx => s76 = .bool (qtextB (t[0]'htp)) ∧ wx = wr)
          case first =>
            iterate 7 go_step
            iterate 4 (refine wpList_orEq _ _ _ _ _ _ _ _ _ _ _ _ _ _ _ _ _ _ _ rfl rfl rfl (by decide) (by show _ < 305; decide) ?_; intro _ _; go_frame)
            iterate 4 (refine wpList_orRange _ _ _ _ _ _ _ _ _ _ _ _ _ _ _ _ _ _ _ _ _ _ _ _ _ _ _ _ _ _ _ _ _ rfl rfl rfl rfl (by decide) (by show _ < 305; decide) ?_; intro _ _ _ _ _ _; go_frame)
            go_wp2_with fail
            go_meet
            case rel =>
              refine ⟨congrArg Value.bool (Eq.symm ?_), rfl⟩
              go_light
              rw [Bool.eq_iff_iff]
              unfold qtextB
              simp only [Bool.or_eq_true, Bool.and_eq_true, decide_eq_true_eq, beq_iff_eq, ← UInt8.toNat_inj, UInt8.toNat_ofNat]
              omega
          case rest =>
            as_aux_lemma =>
            obtain ⟨rfl, rfl⟩ := hcut
            cases hb : qtextB (t[0]'htp)
            · have F := Lib.hid (HN.out hb)
              clear hb HN HY HO
              go_wp2
              rw [Exit.noGoto_ret]
              exact bodyPost_ret (v := mailV none) (by simp [mailV, results, Tryz.results37, go_sem, c0, c1]) rfl ⟨by rw [F.out], (HM.out.1.setCell (p := ⟨w.heap.size, 0, none⟩) (Nat.le_refl _) _).setCell (p := ⟨w.heap.size, 1, none⟩) (Nat.le_refl _) _⟩
            · have HQ := Lib.hid (HY.out hb)
              clear hb HN HY
              go_wp2_with (at_builtin; refine wpList_push_byte rfl (.tmp 127) (.tmp 129) rfl (w.heap.size + 1) _ acc (t[0]'htp) _ rfl rfl HO.out rfl (by omega) HM.out.size ?_)
              intro v1 w1 hown1 hb1
              have HO1 := Lib.hid hown1
              have HM1 := Lib.hid (HM.out.next hb1)
              clear hown1 hb1 HO HM c0 c1 f0 f1
              go_wp2
              go_roundg t.size
              case measure => omega
              case rel => exact ⟨_, _, rfl, by rw [ByteArray.size_extract]; omega, by rw [ByteArray.size_extract]; omega, by rw [ByteArray.size_extract, List.length_append]; simp; omega, HO1.out, HQ.out, HM1.out⟩
    · as_aux_lemma =>
      have hq' : (((s[0]'hpos).toNat : Int) == 34) = false := by rw [beq_eq_false_iff_ne]; omega
      have HR : Hid ((parseA (bytes s) []).bind restM = parseM (bytes s)) := by
        show _ = _
        rw [bytes_cons hpos]
        unfold parseM
        simp only [if_neg (show ¬ s[0]'hpos = 34 from fun e => hq (by rw [e]; rfl))]
      clear hq
      go_wp2
      rename (((s[0]'hpos).toNat : Int) == 34) = false => hq2
      clear hq' hq2
      go_step3
      go_wp2
      go_step3
      go_upto_block 3 with fail
      go_cut [0, 4] (fun s0 s4 wx => ∃ (t : ByteArray) (acc : List UInt8), s0 = .string t ∧ t.size ≤ s.size ∧ acc.length ≤ s.size ∧ Aside (OwnB wx (w.heap.size + 1) s4 acc) ∧ Aside (restM (acc, bytes t) = parseM (bytes s)) ∧ Aside (MailW w wx))
      case first =>
        go_wp2_with fail
        go_loopg [0, 4] s.size (fun kx s0 s4 wr => ∃ (t : ByteArray) (acc : List UInt8), s0 = .string t ∧ t.size ≤ kx ∧ t.size ≤ s.size ∧ acc.length + t.size ≤ s.size ∧ Aside (OwnB wr (w.heap.size + 1) s4 acc) ∧ Aside ((parseA (bytes t) acc).bind restM = parseM (bytes s)) ∧ Aside (MailW w wr))
        case atStart => exact ⟨s, [], rfl, by omega, by omega, by simp, HO0.out, HR.out, HM0.out⟩
        case round =>
          as_aux_lemma =>
          clear HO0 HR HM0
          obtain ⟨t, acc, rfl, hg, ht, hacc, HO, HQ, HM⟩ := hrel
          by_cases ht0 : t.size = 0
          · have HF : Hid (restM (acc, bytes t) = parseM (bytes s)) := by
              show _ = _
              have e := HQ.out
              rw [show bytes t = [] from List.eq_nil_of_length_eq_zero (by rw [bytes_length]; exact ht0), parseA_nil] at e
              rw [← e, show bytes t = [] from List.eq_nil_of_length_eq_zero (by rw [bytes_length]; exact ht0)]; rfl
            have ht0' : ¬ 0 < t.size := by omega
            clear ht0 HQ
            go_wp2_with fail
            go_meet
            case rel => exact ⟨t, acc, rfl, ht, by omega, HO, HF, HM⟩
          have htp : 0 < t.size := by omega
          have HQ0 := HQ
          rw [bytes_cons htp] at HQ
          clear ht0
          by_cases h92 : t[0]'htp = 92
          · have h2 : (((t[0]'htp).toNat : Int) == 92) = true := by rw [h92]; rfl
            rw [h92] at HQ
            clear h92 HQ0
            have hs1 : (t.extract 1 t.size).size = t.size - 1 := by rw [ByteArray.size_extract]; omega
            by_cases ht1 : t.size = 1
            · have F : Hid (parseM (bytes s) = none) := by
                show _ = _
                rw [← HQ.out, show bytes (t.extract 1 t.size) = [] from List.eq_nil_of_length_eq_zero (by rw [bytes_length, hs1]; omega), parseA_esc0]; rfl
              have h3 : (((t.size - 1 : Nat) : Int) == 0) = true := by rw [beq_iff_eq]; omega
              obtain ⟨c0, c1, f0, f1⟩ := HM.out.cells
              clear ht1 HO HQ hs1
              go_wp2
              rw [Exit.noGoto_ret]
              exact bodyPost_ret (v := mailV none) (by simp [mailV, results, Tryz.results37, go_sem, c0, c1]) rfl ⟨by rw [F.out], (HM.out.1.setCell (p := ⟨w.heap.size, 0, none⟩) (Nat.le_refl _) _).setCell (p := ⟨w.heap.size, 1, none⟩) (Nat.le_refl _) _⟩
            have h3 : (((t.size - 1 : Nat) : Int) == 0) = false := by rw [beq_eq_false_iff_ne]; omega
            have h1p : 0 < (t.extract 1 t.size).size := by omega
            have HS1 := Lib.hid hs1
            have h4 : 0 < t.size - 1 := by omega
            rw [bytes_cons h1p] at HQ
            clear ht1 hs1
            have HY : Hid ((parseA (bytes ((t.extract 1 t.size).extract 1 (t.size - 1))) (acc ++ [(t.extract 1 t.size)[0]'h1p])).bind restM = parseM (bytes s)) := by
              show _ = _
              have e1 : (t.extract 1 t.size).extract 1 (t.extract 1 t.size).size = (t.extract 1 t.size).extract 1 (t.size - 1) := by rw [HS1.out]
              rw [← HQ.out, parseA_esc, e1]
            clear HQ
            go_wp2_with (at_builtin; refine wpList_push_byte rfl (.tmp 248) (.tmp 251) rfl (w.heap.size + 1) _ acc ((t.extract 1 t.size)[0]'h1p) _ rfl rfl HO.out rfl (by omega) HM.out.size ?_)
            intro v1 w1 hown1 hb1
            have HO1 := Lib.hid hown1
            have HM1 := Lib.hid (HM.out.next hb1)
            clear hown1 hb1 HO HM
            go_wp2
            go_roundg (t.size - 2)
            case measure => omega
            case rel => exact ⟨_, _, rfl, by rw [ByteArray.size_extract, HS1.out]; omega, by rw [ByteArray.size_extract, HS1.out]; omega, by rw [ByteArray.size_extract, List.length_append, HS1.out]; simp; omega, HO1.out, HY.out, HM1.out⟩
          · have h2 : (((t[0]'htp).toNat : Int) == 92) = false := by rw [beq_c (d := 92) (n := 92) rfl]; simpa using h92
            have HN : Hid (unqB (t[0]'htp) = false → restM (acc, bytes t) = parseM (bytes s)) := by
              show _ → _
              intro hq
              rw [← HQ.out, parseA_stop _ _ h92 hq, bytes_cons htp]; rfl
            have HY : Hid (unqB (t[0]'htp) = true → (parseA (bytes (t.extract 1 t.size)) (acc ++ [t[0]'htp])).bind restM = parseM (bytes s)) := by
              show _ → _
              intro hq
              rw [← HQ.out, parseA_text _ _ h92 hq]
            clear h92 HQ HQ0
            go_upto_region 24 with fail
            go_cut [139] (fun s139 wx => s139 = .bool (unqB (t[0]'htp)) ∧ wx = wr)
            case first =>
              go_step
              (refine wpList_range _ _ _ _ _ _ _ _ _ _ _ _ _ _ _ _ _ _ _ _ _ _ _ _ rfl rfl (by decide) (by show _ < 305; decide) ?_; intro _ _ _ _ _; go_frame)
              iterate 2 (refine wpList_orRange _ _ _ _ _ _ _ _ _ _ _ _ _ _ _ _ _ _ _ _ _ _ _ _ _ _ _ _ _ _ _ _ _ rfl rfl rfl rfl (by decide) (by show _ < 305; decide) ?_; intro _ _ _ _ _ _; go_frame)
              iterate 20 (refine wpList_orEq _ _ _ _ _ _ _ _ _ _ _ _ _ _ _ _ _ _ _ rfl rfl rfl (by decide) (by show _ < 305; decide) ?_; intro _ _; go_frame)
              go_wp2_with fail
              go_meet
              case rel =>
                refine ⟨congrArg Value.bool (Eq.symm ?_), rfl⟩
                go_light
                rw [Bool.eq_iff_iff]
                unfold unqB
                simp only [Bool.or_eq_true, Bool.and_eq_true, decide_eq_true_eq, beq_iff_eq, ← UInt8.toNat_inj, UInt8.toNat_ofNat]
                omega
            case rest =>
              as_aux_lemma =>
              obtain ⟨rfl, rfl⟩ := hcut
              cases hb : unqB (t[0]'htp)
              · have HF := Lib.hid (HN.out hb)
                clear hb HN HY
                go_wp2_with fail
                go_meet
                case rel => exact ⟨t, acc, rfl, ht, by omega, HO, HF.out, HM⟩
              · have HQ := Lib.hid (HY.out hb)
                clear hb HN HY
                go_wp2_with (at_builtin; refine wpList_push_byte rfl (.tmp 248) (.tmp 251) rfl (w.heap.size + 1) _ acc (t[0]'htp) _ rfl rfl HO.out rfl (by omega) HM.out.size ?_)
                intro v1 w1 hown1 hb1
                have HO1 := Lib.hid hown1
                have HM1 := Lib.hid (HM.out.next hb1)
                clear hown1 hb1 HO HM
                go_wp2
                go_roundg (t.size - 1)
                case measure => omega
                case rel => exact ⟨_, _, rfl, by rw [ByteArray.size_extract]; omega, by rw [ByteArray.size_extract]; omega, by rw [ByteArray.size_extract, List.length_append]; simp; omega, HO1.out, HQ.out, HM1.out⟩
      case rest =>
        as_aux_lemma =>
        clear HO0 HR HM0
        obtain ⟨t, acc, rfl, ht, hacc, HO, HQ, HM⟩ := hcut
        obtain ⟨c0, c1, f0, f1⟩ := HM.out.cells
        have hwl : w.heap.size < wc.heap.size := HM.out.size
        by_cases ha0 : acc = []
        · have F : Hid (parseM (bytes s) = none) := by
            show _ = _
            rw [← HQ.out, ha0]; rfl
          obtain ⟨A, cap, rfl, -, -, -, -⟩ := Rd.own HO.out
          have ha0' : ((acc.length : Int) == 0) = true := by rw [ha0]; rfl
          clear ha0 HO HQ
          go_wp2
          rw [Exit.noGoto_ret]
          exact bodyPost_ret (v := mailV none) (by simp [mailV, results, Tryz.results37, go_sem, c0, c1]) rfl ⟨by rw [F.out], (HM.out.1.setCell (p := ⟨w.heap.size, 0, none⟩) (Nat.le_refl _) _).setCell (p := ⟨w.heap.size, 1, none⟩) (Nat.le_refl _) _⟩
        obtain ⟨g, cap, rfl, hcap, hcm, hgl, hcell⟩ := OwnB.row HO.out ha0
        have hl0 : 0 < acc.length := List.length_pos_iff.2 ha0
        have ha0' : ((acc.length : Int) == 0) = false := by rw [beq_eq_false_iff_ne]; omega
        have hcF := hcell 0 hl0
        have hcL := hcell (acc.length - 1) (by omega)
        have HC := Lib.hid hcell
        clear hcell
        by_cases hF : acc[0]'hl0 = 46
        · have F : Hid (parseM (bytes s) = none) := by
            show _ = _
            rw [← HQ.out]
            unfold restM dotsM
            rw [show acc.head? = some 46 by rw [List.head?_eq_getElem?, List.getElem?_eq_getElem hl0, hF]]
            simp
          have h1 : (((acc[0]'hl0).toNat : Int) == 46) = true := by rw [hF]; rfl
          clear hF HQ HO
          go_wp2
          rw [Exit.noGoto_ret]
          exact bodyPost_ret (v := mailV none) (by simp [mailV, results, Tryz.results37, go_sem, c0, c1, hwl]) rfl ⟨by rw [F.out], ((HM.out.1.setCell (p := ⟨w.heap.size, 0, none⟩) (Nat.le_refl _) _).setCell (p := ⟨w.heap.size, 1, none⟩) (Nat.le_refl _) _).alloc (by simp; omega) _⟩
        have h1 : (((acc[0]'hl0).toNat : Int) == 46) = false := by rw [beq_c (d := 46) (n := 46) rfl]; simpa using hF
        by_cases hL : acc[acc.length - 1]'(by omega) = 46
        · have F : Hid (parseM (bytes s) = none) := by
            show _ = _
            rw [← HQ.out]
            unfold restM dotsM
            rw [show acc.getLast? = some 46 by rw [List.getLast?_eq_getElem?, List.getElem?_eq_getElem (by omega), hL]]
            simp
          have h2 : (((acc[acc.length - 1]'(by omega)).toNat : Int) == 46) = true := by rw [hL]; rfl
          clear hF hL HQ HO
          go_wp2
          rw [Exit.noGoto_ret]
          exact bodyPost_ret (v := mailV none) (by simp [mailV, results, Tryz.results37, go_sem, c0, c1, hwl]) rfl ⟨by rw [F.out], ((HM.out.1.setCell (p := ⟨w.heap.size, 0, none⟩) (Nat.le_refl _) _).setCell (p := ⟨w.heap.size, 1, none⟩) (Nat.le_refl _) _).alloc (by simp; omega) _⟩
        have h2 : (((acc[acc.length - 1]'(by omega)).toNat : Int) == 46) = false := by rw [beq_c (d := 46) (n := 46) rfl]; simpa using hL
        have hds : dotsM acc = !twoL acc := by
          unfold dotsM
          have e1 : acc.head? = some (acc[0]'hl0) := by rw [List.head?_eq_getElem?, List.getElem?_eq_getElem hl0]
          have e2 : acc.getLast? = some (acc[acc.length - 1]'(by omega)) := by rw [List.getLast?_eq_getElem?, List.getElem?_eq_getElem (by omega)]
          rw [e1, e2]
          simp [ha0, hF, hL]
        have hsz2 : (ofBytes acc).size ≤ 2147483647 := by rw [size_ofBytes]; omega
        have hct := fun W => contains2_any (ofBytes acc) hsz2 W (twoL acc) (by
          rw [twoL_get, twoP_iff])
        obtain ⟨A, cap', hv, -, -, hrd, -⟩ := Rd.own HO.out
        have hRA : Rd wc (some ⟨g, 0, none⟩) (u8s acc) := by
          injection hv with e1 e2 e3
          rw [e1]; exact hrd
        have hconv := conv_back (wc.alloc (.cells #[.int .u8 46, .int .u8 46] 5)) (some ⟨g, 0, none⟩) cap acc acc.length rfl (hRA.below (Below.one _ _))
        have hconv2 : (convert 70 9 (.slice (some ⟨wc.heap.size, 0, none⟩) 2 2)).run Tryz.prog (wc.alloc (.cells #[.int .u8 46, .int .u8 46] 5)) = .ok (.string ⟨#[46, 46]⟩) (wc.alloc (.cells #[.int .u8 46, .int .u8 46] 5)) := conv_back _ _ 2 [46, 46] 2 rfl (Rd.new wc #[.int .u8 46, .int .u8 46] 5)
        clear hF hL hv hrd hRA
        cases htw : twoL acc
        · rw [htw] at hct hds
          have HCT := Lib.hid hct
          have HF : Hid (finishM (acc, bytes t) = parseM (bytes s)) := by
            show _ = _
            rw [← HQ.out]
            unfold restM
            have hds' : dotsM acc = true := by rw [hds]; rfl
            simp only [hds', if_true]
          clear hct hds htw HQ ha0
          go_wp2_with fail
          refine (HCT.out _).mono ?_
          rintro e w4 ⟨rfl, hb4⟩
          have hb4' : Below (w.heap.size + 1) wc w4 := ((Below.one wc _).trans (hb4.mono (by simp))).mono HM.out.size
          have HM4 := Lib.hid (HM.out.next hb4')
          have HO4 := Lib.hid (HO.out.below ((Below.one wc _).trans (hb4.mono (by simp))))
          clear hb4' hb4 hconv hconv2 HM HO HC
          go_wp2_with fail
          rw [Exit.noGoto_normal]
          go_wp2_with fail
          go_meet
          case rel => exact ⟨t, acc, rfl, ht, hacc, HO4, HF, HM4⟩
        · rw [htw] at hct hds
          have HCT := Lib.hid hct
          have F : Hid (parseM (bytes s) = none) := by
            show _ = _
            rw [← HQ.out]
            unfold restM
            have hds' : dotsM acc = false := by rw [hds]; rfl
            simp only [hds', Bool.false_eq_true, if_false]
          clear hct hds htw HQ ha0
          go_wp2_with fail
          refine (HCT.out _).mono ?_
          rintro e w4 ⟨rfl, hb4⟩
          have HM4 := Lib.hid (HM.out.next (((Below.one wc _).trans (hb4.mono (by simp))).mono HM.out.size))
          clear hb4 hconv hconv2 HM HO HC c0 c1 f0 f1 hwl
          have HM := HM4
          clear HM4
          obtain ⟨c0, c1, f0, f1⟩ := HM.out.cells
          go_wp2
          rw [Exit.noGoto_ret]
          exact bodyPost_ret (v := mailV none) (by simp [mailV, results, Tryz.results37, go_sem, c0, c1]) rfl ⟨by rw [F.out], (HM.out.1.setCell (p := ⟨w.heap.size, 0, none⟩) (Nat.le_refl _) _).setCell (p := ⟨w.heap.size, 1, none⟩) (Nat.le_refl _) _⟩
  case rest =>
    as_aux_lemma =>
    clear HM0 HO0
    obtain ⟨t, acc, rfl, ht, hacc, HO, HF, HM⟩ := hcut
    obtain ⟨c0, c1, f0, f1⟩ := HM.out.cells
    by_cases ht0 : t.size = 0
    · have F : Hid (parseM (bytes s) = none) := by
        show _ = _
        rw [← HF.out, show bytes t = [] from List.eq_nil_of_length_eq_zero (by rw [bytes_length]; exact ht0)]; rfl
      have ht0' : ((t.size : Int) == 0) = true := by simp [ht0]
      clear ht0 HO HF
      go_wp2
      exact bodyPost_ret (v := mailV none) (by simp [mailV, results, Tryz.results37, go_sem, c0, c1]) rfl ⟨by rw [F.out], (HM.out.1.setCell (p := ⟨w.heap.size, 0, none⟩) (Nat.le_refl _) _).setCell (p := ⟨w.heap.size, 1, none⟩) (Nat.le_refl _) _⟩
    have ht0' : ((t.size : Int) == 0) = false := by rw [beq_eq_false_iff_ne]; omega
    have htp : 0 < t.size := by omega
    clear ht0
    by_cases hat : (t[0]'htp).toNat = 64
    rotate_left
    · have F : Hid (parseM (bytes s) = none) := by
        show _ = _
        rw [← HF.out, bytes_cons htp]
        unfold finishM
        simp only
        rw [if_neg (fun e => hat (by rw [e]; rfl))]
      have h1 : (((t[0]'htp).toNat : Int) == 64) = false := by rw [beq_eq_false_iff_ne]; omega
      have h2 : (((t[0]'htp).toNat : Int) != 64) = true := by rw [bne_iff_ne]; omega
      clear hat HO HF
      go_wp2
      exact bodyPost_ret (v := mailV none) (by simp [mailV, results, Tryz.results37, go_sem, c0, c1]) rfl ⟨by rw [F.out], (HM.out.1.setCell (p := ⟨w.heap.size, 0, none⟩) (Nat.le_refl _) _).setCell (p := ⟨w.heap.size, 1, none⟩) (Nat.le_refl _) _⟩
    have h1 : (((t[0]'htp).toNat : Int) == 64) = true := by rw [hat]; rfl
    have h2 : (((t[0]'htp).toNat : Int) != 64) = false := by rw [hat]; rfl
    have HF2 : Hid ((if validL (bytes (t.extract 1 t.size)) false = true then if (bytes (t.extract 1 t.size)).any (· == 64) = true then none else some (acc, bytes (t.extract 1 t.size)) else none) = parseM (bytes s)) := by
      show _ = _
      rw [← HF.out, bytes_cons htp]
      have e : t[0]'htp = 64 := UInt8.toNat_inj.1 hat
      rw [e]
      unfold finishM
      simp only [if_true]
    clear hat HF
    have hds : (t.extract 1 t.size).size ≤ 1073741824 := by rw [ByteArray.size_extract]; omega
    have hdv := fun W => domainValid_any (t.extract 1 t.size) false (by omega) W
    have hdr := fun ha W => containsRune_any (t.extract 1 t.size) (by omega) ha W
    have hasc := validL_ascii (s := t.extract 1 t.size) (c := false)
    cases hv : validL (bytes (t.extract 1 t.size)) false
    · have F : Hid (parseM (bytes s) = none) := by
        show _ = _
        rw [← HF2.out, hv]; rfl
      rw [hv] at hdv
      have HV := Lib.hid hdv
      clear hdv hdr hasc hv HF2 HO
      go_wp2_with ((with_reducible refine (HV.out _).mono ?_); rintro e w3 ⟨rfl, rfl⟩)
      exact bodyPost_ret (v := mailV none) (by simp [mailV, results, Tryz.results37, go_sem, c0, c1]) rfl ⟨by rw [F.out], (HM.out.1.setCell (p := ⟨w.heap.size, 0, none⟩) (Nat.le_refl _) _).setCell (p := ⟨w.heap.size, 1, none⟩) (Nat.le_refl _) _⟩
    have hdr := hdr (hasc hv)
    rw [hv] at hdv
    have HV := Lib.hid hdv
    rw [hv, if_pos rfl] at HF2
    clear hdv hasc hv
    cases ha : (bytes (t.extract 1 t.size)).any (· == 64)
    · rw [ha] at hdr HF2
      have HD := Lib.hid hdr
      have hown := HO.out
      obtain ⟨A, cap, rfl, hnc, hcap, hrd, hll⟩ := Rd.own hown
      have HRD := Lib.hid hrd
      clear hdr ha hown hrd HO c0 c1 f0 f1
      go_wp2_with ((with_reducible refine (HV.out _).mono ?_); rintro e w3 ⟨rfl, rfl⟩)
      refine (HD.out _).mono ?_
      rintro e w3 ⟨rfl, hb3⟩
      have HM3 := Lib.hid (HM.out.next (hb3.mono HM.out.size))
      obtain ⟨c0, c1, f0, f1⟩ := HM3.out.cells
      have hconv := conv_back w3 A cap acc acc.length rfl (HRD.out.below hb3)
      have HE : Hid (mailV (parseM (bytes s)) = .tuple #[.agg #[.string (ofBytes acc), .string (t.extract 1 t.size)], .bool true]) := by
        show _ = _
        rw [← HF2.out]
        unfold mailV
        rw [if_neg (by decide)]
        simp only [ofBytes_bytes]
      clear hb3 hll HF2 HD HV HRD
      go_wp2
      exact bodyPost_ret (v := .tuple #[.agg #[.string (ofBytes acc), .string (t.extract 1 t.size)], .bool true]) (by simp [results, Tryz.results37, go_sem, c0, four_cells (.string (ofBytes acc)) (.string (t.extract 1 t.size)) c1]) rfl ⟨by rw [HE.out], (((HM3.out.1.setCell (p := ⟨w.heap.size, 0, none⟩) (Nat.le_refl _) _).setCell (p := ⟨w.heap.size, 1, none⟩) (Nat.le_refl _) _).setCell (p := ⟨w.heap.size, 0, none⟩) (Nat.le_refl _) _).setCell (p := ⟨w.heap.size, 1, none⟩) (Nat.le_refl _) _⟩
    · rw [ha] at hdr HF2
      have F : Hid (parseM (bytes s) = none) := HF2.out.symm
      have HD := Lib.hid hdr
      clear hdr ha HF2 HO c0 c1 f0 f1
      go_wp2_with ((with_reducible refine (HV.out _).mono ?_); rintro e w3 ⟨rfl, rfl⟩)
      refine (HD.out _).mono ?_
      rintro e w3 ⟨rfl, hb3⟩
      have HM3 := Lib.hid (HM.out.next (hb3.mono HM.out.size))
      clear HM
      have HM := HM3
      clear HM3
      obtain ⟨c0, c1, f0, f1⟩ := HM.out.cells
      clear hb3 HD HV
      go_wp2
      exact bodyPost_ret (v := mailV none) (by simp [mailV, results, Tryz.results37, go_sem, c0, c1]) rfl ⟨by rw [F.out], (HM.out.1.setCell (p := ⟨w.heap.size, 0, none⟩) (Nat.le_refl _) _).setCell (p := ⟨w.heap.size, 1, none⟩) (Nat.le_refl _) _⟩
end Go.Proofs.YtdinnpjplgkffaaGreatDoor
