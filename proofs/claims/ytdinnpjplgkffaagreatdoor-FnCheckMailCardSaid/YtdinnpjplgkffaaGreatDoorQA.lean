/-
  Walks: spec.cut, MailboxOk, SubOk, URI, Mail. Texts of at most 2^31 bytes. Walks: laws.mails, spec.Of at it: what constraints say of a mail address.
-/
import Derived.Test.YtdinnpjplgkffaaGreatDoorK2
import Derived.Test.YtdinnpjplgkffaaGreatDoorPMails
namespace Go.Proofs.YtdinnpjplgkffaaGreatDoor
open Go.ChangeShapes Go.WideShapes Go.ChangeAt Go.RowKit

/-! ### THE CUT -/
def cut3 : Option (List UInt8 × List UInt8) → Value
  | none => .tuple #[.string ⟨#[]⟩, .string ⟨#[]⟩, .bool false]
  | some p => .tuple #[.string (ofBytes p.1), .string (ofBytes p.2), .bool true]
theorem cutL_count {l a d : List UInt8} (h : cutL l = some (a, d)) : l.count 64 = 1 := by
  obtain ⟨rfl, h1, h2⟩ := cutL_some.1 h
  rw [List.count_append, List.count_cons_self, List.count_eq_zero.2 h1, List.count_eq_zero.2 h2]
def CutInv (l : List UInt8) (k z m : Nat) : Prop :=
  (m = 0 ∧ z = 0 ∧ (64 : UInt8) ∉ l.take k) ∨ (m = 1 ∧ z < k ∧ ∃ a d, l.take k = a ++ 64 :: d ∧ a.length = z ∧ (64 : UInt8) ∉ a ∧ (64 : UInt8) ∉ d) ∨ (2 ≤ m ∧ m ≤ k ∧ z < k ∧ 2 ≤ (l.take k).count 64)
theorem CutInv.miss {l : List UInt8} {k z m : Nat} (h : CutInv l k z m) (hk : k < l.length) (hc : l[k] ≠ 64) : CutInv l (k + 1) z m := by
  unfold CutInv
  rw [List.take_succ_eq_append_getElem hk]
  rcases h with ⟨h1, h2, h3⟩ | ⟨h1, h2, a, d, e, h3, h4, h5⟩ | ⟨h1, h2, h3, h4⟩
  · refine .inl ⟨h1, h2, fun h => ?_⟩
    rcases List.mem_append.1 h with h | h
    · exact h3 h
    · exact hc (List.mem_singleton.1 h).symm
  · refine .inr (.inl ⟨h1, by omega, a, d ++ [l[k]], by rw [e]; simp, h3, h4, fun h => ?_⟩)
    rcases List.mem_append.1 h with h | h
    · exact h5 h
    · exact hc (List.mem_singleton.1 h).symm
  · refine .inr (.inr ⟨h1, by omega, by omega, ?_⟩)
    rw [List.count_append]; omega
theorem CutInv.hit {l : List UInt8} {k z m : Nat} (h : CutInv l k z m) (hk : k < l.length) (hc : l[k] = 64) : CutInv l (k + 1) k (m + 1) := by
  unfold CutInv
  rw [List.take_succ_eq_append_getElem hk, hc]
  rcases h with ⟨h1, h2, h3⟩ | ⟨h1, h2, a, d, e, h3, h4, h5⟩ | ⟨h1, h2, h3, h4⟩
  · exact .inr (.inl ⟨by omega, by omega, l.take k, [], rfl, by rw [List.length_take]; omega, h3, by simp⟩)
  · refine .inr (.inr ⟨by omega, by omega, by omega, ?_⟩)
    rw [e, List.count_append, List.count_append, List.count_cons_self, List.count_cons_self]; omega
  · refine .inr (.inr ⟨by omega, by omega, by omega, ?_⟩)
    rw [List.count_append]; omega
theorem CutInv.le {l : List UInt8} {k z m : Nat} (h : CutInv l k z m) : z ≤ k ∧ m ≤ k := by
  rcases h with ⟨h1, h2, h3⟩ | ⟨h1, h2, a, d, e, h3, h4, h5⟩ | ⟨h1, h2, h3, h4⟩ <;> omega
theorem CutInv.done {l : List UInt8} {k z m : Nat} (h : CutInv l k z m) (hk : k = l.length) : (m = 1 ∧ z < k ∧ cutL l = some (l.take z, l.drop (z + 1))) ∨ (m ≠ 1 ∧ cutL l = none) := by
  subst hk
  unfold CutInv at h
  rw [List.take_length] at h
  rcases h with ⟨h1, h2, h3⟩ | ⟨h1, h2, a, d, e, h3, h4, h5⟩ | ⟨h1, h2, h3, h4⟩
  · refine .inr ⟨by omega, ?_⟩
    cases e : cutL l with
    | none => rfl
    | some p => exact absurd (cutL_mem (l := l) (a := p.1) (d := p.2) e) h3
  · refine .inl ⟨h1, h2, ?_⟩
    rw [cutL_some]
    have e1 : l.take z = a := by rw [e, ← h3, List.take_left]
    have e2 : l.drop (z + 1) = d := by
      rw [e, show a ++ 64 :: d = (a ++ [64]) ++ d by simp, List.drop_left' (by simp [h3])]
    rw [e1, e2]
    exact ⟨e, h4, h5⟩
  · refine .inr ⟨by omega, ?_⟩
    cases e : cutL l with
    | none => rfl
    | some p =>
      have := cutL_count (l := l) (a := p.1) (d := p.2) e
      omega
set_option maxHeartbeats 1000000 in
theorem cut_any (s : ByteArray) (hs : s.size ≤ 2147483647) (w : World) :
    Calls Tryz.prog 14 #[.string s] w (Ret (cut3 (cutL (bytes s))) w) := by
  obtain ⟨R, hR⟩ : ∃ R, cutL (bytes s) = R := ⟨_, rfl⟩
  rw [hR]
  have HR := Lib.hid hR
  clear hR
  go_enter Tryz.func14, Tryz.ntmps14
  go_wp2
  go_loopg [5, 6, 7] s.size (fun kx s5 s6 s7 wr => w = wr ∧ ∃ k z m : Nat, k ≤ s.size ∧ s.size - k ≤ kx ∧ s5 = .int .i64 z ∧ s6 = .int .i64 m ∧ s7 = .int .i64 k ∧ z ≤ k ∧ m ≤ k ∧ Aside (CutInv (bytes s) k z m))
  case atStart => exact ⟨rfl, 0, 0, 0, by omega, by omega, rfl, rfl, rfl, by omega, by omega, .inl ⟨rfl, rfl, by simp⟩⟩
  case round =>
    obtain ⟨rfl, k, z, m, hk, hg, rfl, rfl, rfl, hz, hm, Q⟩ := hrel
    by_cases hlt : k < s.size
    · have hlb : k < (bytes s).length := by rw [bytes_length]; exact hlt
      have hix := bytes_ix s k hlt hlb
      by_cases hc : s[k]'hlt = 64
      · have Q2 : Aside (CutInv (bytes s) (k + 1) k (m + 1)) := Q.out.hit hlb (by rw [hix]; exact hc)
        have hb : (((s[k]'hlt).toNat : Int) == 64) = true := by rw [hc]; rfl
        clear Q hc hix
        go_wp2
        go_roundg (s.size - (k + 1))
        case measure => omega
        case rel => exact ⟨rfl, k + 1, k, m + 1, by omega, by omega, rfl, by go_num, by go_num, by omega, by omega, Q2⟩
      · have Q2 : Aside (CutInv (bytes s) (k + 1) z m) := Q.out.miss hlb (by rw [hix]; exact hc)
        have hb : (((s[k]'hlt).toNat : Int) == 64) = false := by
          simp only [beq_eq_false_iff_ne]
          intro h
          exact hc (UInt8.toNat_inj.1 (by have : (64 : UInt8).toNat = 64 := rfl; omega))
        clear Q hc hix
        go_wp2
        go_roundg (s.size - (k + 1))
        case measure => omega
        case rel => exact ⟨rfl, k + 1, z, m, by omega, by omega, rfl, rfl, by go_num, by omega, by omega, Q2⟩
    · have hd := Q.out.done (by rw [bytes_length]; omega)
      clear Q
      rcases hd with ⟨rfl, h1, h2⟩ | ⟨h1, h2⟩
      · have e1 : s.extract 0 z = ofBytes ((bytes s).take z) := bytes_inj (by rw [bytes_extract, bytes_ofBytes, List.drop_zero, Nat.sub_zero])
        have e2 : s.extract (z + 1) s.size = ofBytes ((bytes s).drop (z + 1)) := bytes_inj (by
          rw [bytes_extract, bytes_ofBytes, List.take_of_length_le]
          rw [List.length_drop, bytes_length]; omega)
        have F : Hid (cut3 R = .tuple #[.string (s.extract 0 z), .string (s.extract (z + 1) s.size), .bool true]) := by
          show _ = _
          rw [← HR.out, h2, e1, e2]; rfl
        have hz2 : ((z : Int) + 1) ≤ (s.size : Int) := by omega
        clear h2 e1 e2 HR
        go_wp2
        go_quiet (fail)
        go_wp2
        go_ret3
        exact ⟨congrArg Ending.returned F.out.symm, below_drewN (Below.refl _ _) _⟩
      · have F : Hid (cut3 R = .tuple #[.string ⟨#[]⟩, .string ⟨#[]⟩, .bool false]) := by
          show _ = _
          rw [← HR.out, h2]; rfl
        have hb : ((m : Int) == 1) = false := by rw [beq_eq_false_iff_ne]; omega
        clear h2 HR h1
        go_wp2
        go_ret3
        exact ⟨congrArg Ending.returned F.out.symm, Below.refl _ _⟩
set_option maxHeartbeats 1000000 in
theorem mboxOk_any (s : ByteArray) (hs : s.size ≤ 2147483647) (b : Bool) (hb : b = true ↔ mboxOk (bytes s)) (w : World) :
    Calls Tryz.prog 7 #[.string s] w (Ret (.bool b) w) := by
  have HC := fun W => cut_any s hs W
  cases hR : cutL (bytes s) with
  | none =>
    have F : Hid (b = false) := by
      cases b
      · rfl
      · obtain ⟨p, q, h, -⟩ := hb.1 rfl
        rw [hR] at h; cases h
    rw [hR] at HC
    have H := Lib.hid HC
    clear hb hR HC
    unfold cut3 at H
    go_enter Tryz.func7, Tryz.ntmps7
    go_wp2_with ((with_reducible refine (H.out _).mono ?_); rintro e w1 ⟨rfl, hb1⟩)
    go_ret
    exact ⟨ret_bool F.out.symm, hb1⟩
  | some p =>
    obtain ⟨p, q⟩ := p
    rw [hR] at HC
    have H := Lib.hid HC
    unfold cut3 at H
    have hl := congrArg List.length (cutL_some.1 hR).1
    rw [List.length_append, List.length_cons, bytes_length] at hl
    have hp : (ofBytes p).size ≤ 2147483647 := by rw [size_ofBytes]; omega
    have hq : (ofBytes q).size ≤ 2147483647 := by rw [size_ofBytes]; omega
    have hbb : b = true ↔ localOk p ∧ nameOk q = true := by
      rw [hb]
      constructor
      · rintro ⟨p', q', e, h1, h2⟩
        rw [hR] at e
        injection e with e
        injection e with e1 e2
        subst e1 e2
        exact ⟨h1, h2⟩
      · rintro ⟨h1, h2⟩
        exact ⟨p, q, hR, h1, h2⟩
    have HN := fun W => nameOk_any (ofBytes q) hq W
    rw [bytes_ofBytes] at HN
    by_cases h1 : localOk p
    · have HL := Lib.hid (fun W => localOk_any (ofBytes p) hp W true ⟨fun _ => by rw [bytes_ofBytes]; exact h1, fun _ => rfl⟩)
      have F : Hid (nameOk q = b) := by
        show _ = _
        rw [Bool.eq_iff_iff, hbb]
        exact ⟨fun h => ⟨h1, h⟩, fun h => h.2⟩
      rw [F.out] at HN
      have H2 := Lib.hid HN
      clear hb hR HC HN hl hp hq hbb h1 F
      go_enter Tryz.func7, Tryz.ntmps7
      go_wp2_with (first | ((with_reducible refine (H.out _).mono ?_); rintro e w1 ⟨rfl, hb1⟩) | ((with_reducible refine (HL.out _).mono ?_); rintro e w2 ⟨rfl, hb2⟩) | ((with_reducible refine (H2.out _).mono ?_); rintro e w3 ⟨rfl, hb3⟩))
      go_ret
      exact ⟨rfl, Below.next (Below.next hb1 hb2) hb3⟩
    · have HL := Lib.hid (fun W => localOk_any (ofBytes p) hp W false ⟨fun e => (by cases e), fun e => absurd (by rw [bytes_ofBytes] at e; exact e) h1⟩)
      have F : Hid (b = false) := by
        cases b
        · rfl
        · exact absurd (hbb.1 rfl).1 h1
      clear hb hR HC HN hl hp hq hbb h1
      go_enter Tryz.func7, Tryz.ntmps7
      go_wp2_with (first | ((with_reducible refine (H.out _).mono ?_); rintro e w1 ⟨rfl, hb1⟩) | ((with_reducible refine (HL.out _).mono ?_); rintro e w2 ⟨rfl, hb2⟩))
      go_ret
      exact ⟨ret_bool F.out.symm, Below.next hb1 hb2⟩

/-! ### A CONSTRAINT OF HOSTS -/
theorem bytes_tail (s : ByteArray) : bytes (s.extract 1 s.size) = (bytes s).tail := by
  rw [bytes_extract, List.take_of_length_le (by rw [List.length_drop, bytes_length]; omega), List.drop_one]
set_option maxHeartbeats 1000000 in
theorem subOk_any (s : ByteArray) (hs : s.size ≤ 2147483647) (w : World) :
    Calls Tryz.prog 35 #[.string s] w (Ret (.bool (subOkB (bytes s))) w) := by
  by_cases h1 : 1 < s.size
  · have h0 : 0 < s.size := by omega
    have hl0 : 0 < (bytes s).length := by rw [bytes_length]; exact h0
    have hh : (bytes s).head? = some (s[0]'h0) := by
      rw [List.head?_eq_getElem?, bytes_get s 0 h0]
    by_cases hc : s[0]'h0 = 46
    · have hb : (((s[0]'h0).toNat : Int) == 46) = true := by rw [hc]; rfl
      have HN := fun W => nameOk_any (s.extract 1 s.size) (by rw [ByteArray.size_extract]; omega) W
      rw [bytes_tail] at HN
      have F : Hid (subOkB (bytes s) = nameOk (bytes s).tail) := by
        show _ = _
        unfold subOkB
        rw [hh, hc]; simp
      rw [← F.out] at HN
      generalize subOkB (bytes s) = r at *
      have H := Lib.hid HN
      clear HN F hc hh hl0
      go_enter Tryz.func35, Tryz.ntmps35
      go_wp2_with ((with_reducible refine (H.out _).mono ?_); rintro e w1 ⟨rfl, hb1⟩)
      go_ret
      exact ⟨rfl, hb1⟩
    · have hb : (((s[0]'h0).toNat : Int) == 46) = false := by
        simp only [beq_eq_false_iff_ne]
        intro h
        exact hc (UInt8.toNat_inj.1 (by have : (46 : UInt8).toNat = 46 := rfl; omega))
      have F : Hid (subOkB (bytes s) = false) := by
        show _ = _
        unfold subOkB
        rw [hh]; simp [hc]
      clear hc hh hl0
      go_enter Tryz.func35, Tryz.ntmps35
      go_wp2
      go_ret
      exact ⟨ret_bool F.out.symm, Below.refl _ _⟩
  · have F : Hid (subOkB (bytes s) = false) := by
      show _ = _
      cases e : subOkB (bytes s)
      · rfl
      · obtain ⟨r, e1, hr⟩ := subOkB_some e
        have := nameOk_pos hr
        have h2 := congrArg List.length e1
        rw [bytes_length, List.length_cons] at h2
        omega
    go_enter Tryz.func35, Tryz.ntmps35
    go_wp2
    go_ret
    exact ⟨ret_bool F.out.symm, Below.refl _ _⟩
set_option maxHeartbeats 1000000 in
theorem uri_any (c h : ByteArray) (hc : c.size ≤ 2147483647) (hh : h.size ≤ 2147483647) (w : World) :
    Calls Tryz.prog 29 #[.string c, .string h] w (Ret (.int .i64 (uriS (bytes c) (bytes h))) w) := by
  have H0 := fun W => subOk_any c hc W
  have H1 := fun W => nameOk_any c hc W
  have H2 := fun W => under_any h c hh hc W
  have H3 := fun W => same_any h c hh hc W
  unfold uriS
  cases hs : subOkB (bytes c)
  · rw [if_neg (by simp)]
    rw [hs] at H0
    have K0 := Lib.hid H0
    clear H0 hs
    cases hn : nameOk (bytes c)
    · rw [if_pos rfl]
      rw [hn] at H1
      have K1 := Lib.hid H1
      clear H1 H2 H3 hn
      go_enter Tryz.func29, Tryz.ntmps29
      go_wp2_with (first | ((with_reducible refine (K0.out _).mono ?_); rintro e w1 ⟨rfl, hb1⟩) | ((with_reducible refine (K1.out _).mono ?_); rintro e w2 ⟨rfl, hb2⟩))
      go_ret
      exact ⟨rfl, Below.next hb1 hb2⟩
    · rw [if_neg (by simp)]
      rw [hn] at H1
      have K1 := Lib.hid H1
      clear H1 hn
      cases hu : underL (bytes h) (bytes c)
      · rw [if_neg (by simp)]
        rw [hu] at H2
        have K2 := Lib.hid H2
        clear H2 hu
        cases hm : sameL (bytes h) (bytes c)
        all_goals
          rw [hm] at H3
          have K3 := Lib.hid H3
          clear H3 hm
          go_enter Tryz.func29, Tryz.ntmps29
          go_wp2_with (first | ((with_reducible refine (K0.out _).mono ?_); rintro e w1 ⟨rfl, hb1⟩) | ((with_reducible refine (K1.out _).mono ?_); rintro e w2 ⟨rfl, hb2⟩) | ((with_reducible refine (K2.out _).mono ?_); rintro e w3 ⟨rfl, hb3⟩) | ((with_reducible refine (K3.out _).mono ?_); rintro e w4 ⟨rfl, hb4⟩))
          go_ret
          exact ⟨rfl, Below.next (Below.next (Below.next hb1 hb2) hb3) hb4⟩
      · rw [if_pos rfl]
        rw [hu] at H2
        have K2 := Lib.hid H2
        clear H2 H3 hu
        go_enter Tryz.func29, Tryz.ntmps29
        go_wp2_with (first | ((with_reducible refine (K0.out _).mono ?_); rintro e w1 ⟨rfl, hb1⟩) | ((with_reducible refine (K1.out _).mono ?_); rintro e w2 ⟨rfl, hb2⟩) | ((with_reducible refine (K2.out _).mono ?_); rintro e w3 ⟨rfl, hb3⟩))
        go_ret
        exact ⟨rfl, Below.next (Below.next hb1 hb2) hb3⟩
  · rw [if_pos rfl]
    rw [hs] at H0
    have K0 := Lib.hid H0
    have h1 : 1 ≤ c.size := by
      obtain ⟨r, e, -⟩ := subOkB_some hs
      have := congrArg List.length e
      rw [bytes_length, List.length_cons] at this
      omega
    have H4 := fun W => under_any h (c.extract 1 c.size) hh (by rw [ByteArray.size_extract]; omega) W
    rw [bytes_tail] at H4
    clear H0 H1 H2 H3 hs
    cases hu : underL (bytes h) (bytes c).tail
    all_goals
      rw [hu] at H4
      have K4 := Lib.hid H4
      clear H4 hu
      go_enter Tryz.func29, Tryz.ntmps29
      go_wp2_with (first | ((with_reducible refine (K0.out _).mono ?_); rintro e w1 ⟨rfl, hb1⟩) | ((with_reducible refine (K4.out _).mono ?_); rintro e w2 ⟨rfl, hb2⟩))
      go_ret
      exact ⟨rfl, Below.next hb1 hb2⟩

/-! ### A CONSTRAINT OF MAIL ADDRESSES -/
noncomputable def saysM (c a d : ByteArray) : Int := mailS (bytes c) (bytes a) (bytes d)
theorem text_eq (a b : ByteArray) : (a.toList == b.toList) = decide (bytes a = bytes b) := by
  rw [Bool.eq_iff_iff, beq_iff_eq, decide_eq_true_eq, ByteArray.toList_eq, ByteArray.toList_eq]; rfl
set_option maxHeartbeats 1000000 in
theorem mail_any (c a d : ByteArray) (hc : c.size ≤ 2147483647) (hd : d.size ≤ 2147483647) (w : World) :
    Calls Tryz.prog 19 #[.string c, .string a, .string d] w (Ret (.int .i64 (saysM c a d)) w) := by
  by_cases hm : mboxOk (bytes c)
  · have H0 := Lib.hid (fun W => mboxOk_any c hc true ⟨fun _ => hm, fun _ => rfl⟩ W)
    obtain ⟨p, q, h1, h2, h3⟩ := id hm
    have HC := fun W => cut_any c hc W
    rw [h1] at HC
    unfold cut3 at HC
    have H1 := Lib.hid HC
    have hq : (ofBytes q).size ≤ 2147483647 := by
      have := nameOk_size h3
      rw [size_ofBytes]; omega
    have HS := fun W => same_any (ofBytes q) d hq hd W
    rw [bytes_ofBytes] at HS
    have he := text_eq (ofBytes p) a
    rw [bytes_ofBytes] at he
    have hv : saysM c a d = if p = bytes a ∧ sameL q (bytes d) = true then 1 else 0 := by
      unfold saysM mailS
      rw [if_pos hm]
      have : (∃ q', cutL (bytes c) = some (bytes a, q') ∧ sameL q' (bytes d) = true) ↔ (p = bytes a ∧ sameL q (bytes d) = true) := by
        rw [h1]
        constructor
        · rintro ⟨q', e, h⟩
          injection e with e
          injection e with e1 e2
          subst e2
          exact ⟨e1, h⟩
        · rintro ⟨e1, h⟩
          exact ⟨q, by rw [e1], h⟩
      by_cases hx : ∃ q', cutL (bytes c) = some (bytes a, q') ∧ sameL q' (bytes d) = true
      · rw [if_pos hx, if_pos (this.1 hx)]
      · rw [if_neg hx, if_neg (fun h => hx (this.2 h))]
    generalize saysM c a d = v at *
    clear HC h1 h2 h3 hm hq
    by_cases hp : p = bytes a
    · rw [decide_eq_true hp] at he
      cases hs : sameL q (bytes d)
      all_goals
        rw [hs] at HS hv
        have H2 := Lib.hid HS
        have F : Hid (v = _) := hv
        simp only [hp, true_and] at F
        clear HS hs hp hv
        go_enter Tryz.func19, Tryz.ntmps19
        go_wp2_with (first | ((with_reducible refine (H0.out _).mono ?_); rintro e w1 ⟨rfl, hb1⟩) | ((with_reducible refine (H1.out _).mono ?_); rintro e w2 ⟨rfl, hb2⟩) | ((with_reducible refine (H2.out _).mono ?_); rintro e w3 ⟨rfl, hb3⟩))
        go_ret
        exact ⟨ret_int (by rw [F.out]; simp), Below.next (Below.next hb1 hb2) hb3⟩
    · rw [decide_eq_false hp] at he
      have F : Hid (v = 0) := by
        show _ = _
        rw [hv, if_neg (fun h => hp h.1)]
      clear HS hp hv
      go_enter Tryz.func19, Tryz.ntmps19
      go_wp2_with (first | ((with_reducible refine (H0.out _).mono ?_); rintro e w1 ⟨rfl, hb1⟩) | ((with_reducible refine (H1.out _).mono ?_); rintro e w2 ⟨rfl, hb2⟩))
      go_ret
      exact ⟨ret_int (by rw [F.out]), Below.next hb1 hb2⟩
  · have H0 := Lib.hid (fun W => mboxOk_any c hc false ⟨fun e => (by cases e), fun e => absurd e hm⟩ W)
    have H1 := fun W => uri_any c d hc hd W
    have hv : saysM c a d = uriS (bytes c) (bytes d) := by
      unfold saysM mailS
      rw [if_neg hm]
    rw [← hv] at H1
    generalize saysM c a d = v at *
    have H2 := Lib.hid H1
    clear H1 hv hm
    go_enter Tryz.func19, Tryz.ntmps19
    go_wp2_with (first | ((with_reducible refine (H0.out _).mono ?_); rintro e w1 ⟨rfl, hb1⟩) | ((with_reducible refine (H2.out _).mono ?_); rintro e w2 ⟨rfl, hb2⟩))
    go_ret
    exact ⟨rfl, Below.next hb1 hb2⟩
end Go.Proofs.YtdinnpjplgkffaaGreatDoor
namespace Go.Proofs.YtdinnpjplgkffaaGreatDoor
open Go.ChangeShapes Go.WideShapes Go.ChangeAt Go.RowKit

set_option maxHeartbeats 1000000 in
theorem mails1_any (c a d : ByteArray) (g h : Nat) (hc : c.size ≤ 2147483647) (hd : d.size ≤ 2147483647) (w : World) (h1 : w.cell? ⟨g, 0, none⟩ = some (.string a)) (h2 : w.cell? ⟨h, 0, none⟩ = some (.string d)) :
    Calls Tryz.prog 18 #[.string c, .pointer (some ⟨g, 0, none⟩), .pointer (some ⟨h, 0, none⟩)] w (Ret (.int .i64 (saysM c a d)) w) := by
  have H := Lib.hid (fun W => mail_any c a d hc hd W)
  go_enter Tryz.func18, Tryz.ntmps18
  go_wp2_with ((with_reducible refine (H.out _).mono ?_); rintro e w1 ⟨rfl, hb1⟩)
  go_ret
  exact ⟨rfl, hb1⟩
set_option maxRecDepth 100000 in
set_option maxHeartbeats 1000000 in
theorem ofM_any (B : Option Addr) (m d : Nat) (bs : List ByteArray) (a x : ByteArray) (g h : Nat) (w : World) (hm : m = bs.length) (hf : fitsP bs) (hx : x.size ≤ 2147483647) (hr : Rd w B (strs bs)) (hcell : w.cell? ⟨g, 0, none⟩ = some (.string a)) (hcell2 : w.cell? ⟨h, 0, none⟩ = some (.string x)) :
    Calls Tryz.prog 17 #[.slice B m d, .func (.func 18) #[] #[.pointer (some ⟨g, 0, none⟩), .pointer (some ⟨h, 0, none⟩)]] w (SaysPost (bs.map fun c => saysM c a x) w) := by
  subst hm
  have HR := Lib.hid hr
  have HF := Lib.hid hf.2
  have hle := hf.1
  have HC := Lib.hid hcell
  have HG : Hid (g < w.heap.size) := cell_lt hcell
  have HC2 := Lib.hid hcell2
  have HG2 : Hid (h < w.heap.size) := cell_lt hcell2
  have O0 : Aside ((w.alloc (.cells #[] 3)).ownsRow w.heap.size 3 1 (.slice (some ⟨w.heap.size, 0, none⟩) 0 0) 0 (ints [])) := World.ownsRow_made w #[] 0 (Nat.le_refl _) (by omega) rfl
  obtain ⟨X, hX⟩ : ∃ X, X = bs.map fun c => saysM c a x := ⟨_, rfl⟩
  have hxl : X.length = bs.length := by rw [hX, List.length_map]
  have hxk : ∀ k (h1 : k < bs.length) (h2 : k < X.length), X[k] = saysM bs[k] a x := fun k h1 h2 => by subst hX; rw [List.getElem_map]
  rw [← hX]
  have HXL := Lib.hid hxl
  have HXK := Lib.hid hxk
  clear hr hf hcell hcell2 hX hxl hxk
  go_enter Tryz.func17, Tryz.ntmps17
  go_wp2
  go_loopg [5, 11] bs.length (fun kx s5 s11 wr => ∃ k : Nat, s11 = .int .i64 k ∧ k ≤ bs.length ∧ bs.length - k ≤ kx ∧ Aside (wr.ownsRow w.heap.size 3 1 s5 k (ints (X.take k))) ∧ Aside (Below w.heap.size w wr))
  case atStart => exact ⟨0, rfl, by omega, by omega, O0, Below.one _ _⟩
  case round =>
    clear O0
    obtain ⟨k, rfl, hk, hg, HO, HW⟩ := hrel
    by_cases hlt : k < bs.length
    · obtain ⟨ad, rfl, h1l, hc1⟩ := (HR.out.below HW.out) k _ (strs_get hlt)
      have hck := HF.out k hlt
      have hkx : k < X.length := by have := HXL.out; omega
      have hlen : (X.take k).length = k := by rw [List.length_take]; omega
      have HE : Hid (X.take (k + 1) = X.take k ++ [saysM bs[k] a x]) := by
        show _ = _
        rw [List.take_succ_eq_append_getElem hkx, HXK.out k hlt hkx]
      have HD := Lib.hid (mails1_any bs[k] a x g h hck hx wr ((HW.out.cell (p := ⟨g, 0, none⟩) HG.out).trans HC.out) ((HW.out.cell (p := ⟨h, 0, none⟩) HG2.out).trans HC2.out))
      obtain ⟨row, hrow⟩ : ∃ row, row = X.take k := ⟨_, rfl⟩
      rw [← hrow] at HE hlen
      have HO2' := Lib.hid (show wr.ownsRow w.heap.size 3 1 u5 row.length (ints row) by rw [hrow, List.length_take, Nat.min_eq_left (by omega)]; exact HO.out)
      have HLn := Lib.hid hlen
      have hl2 : row.length ≤ 2147483647 := by omega
      generalize bs[k] = y at hc1 hck HE HD
      clear hlen hrow hkx HO
      go_wp2_with fail
      refine HD.out.mono ?_
      rintro e w1 ⟨rfl, hb1⟩
      have HB1 := Lib.hid hb1
      have HO1 : Hid (w1.ownsRow w.heap.size 3 1 u5 row.length (ints row)) := by
        show World.ownsRow _ _ _ _ _ _ _
        refine World.ownsRow.kept (row := none) HO2'.out ⟨HB1.out.os, HB1.out.tape, HB1.out.output, HB1.out.size, fun k hk _ => HB1.out.block k hk⟩ ?_
        cases e : u5.ownBlock
        · exact .inl rfl
        · exact .inr (by simp)
      have hsz : w.heap.size ≤ w1.heap.size := Nat.le_trans HW.out.size HB1.out.size
      clear hb1 HO2'
      go_wp2_with (at_builtin; refine wpList_push_int rfl (.tmp 15) (.tmp 19) rfl w.heap.size _ row (saysM y a x) rfl HO1.out rfl hl2 hsz ?_)
      intro v' w2 hown hb2
      rw [HLn.out, ← HE.out] at hown
      have HO2 := Lib.hid hown
      have HW2 := Lib.hid (HW.out.trans ((HB1.out.mono HW.out.size).trans hb2))
      clear hown hb2 HO1 HB1
      go_wp2
      go_roundg (bs.length - (k + 1))
      case measure => omega
      case rel => exact ⟨k + 1, by go_num, by omega, by omega, HO2.out, HW2.out⟩
    · obtain rfl : k = bs.length := by omega
      have F : Hid (SaysPost X w (.returned u5) wr) := by
        have h := HO.out
        rw [← HXL.out, List.take_length] at h
        obtain ⟨A, cap, e, -, -, hrd, -⟩ := Rd.own h
        exact ⟨A, cap, by rw [e], hrd, HW.out⟩
      clear HO
      go_wp2
      go_ret
      exact F.out
set_option maxHeartbeats 1000000 in
theorem lawsMails_any (B : Option Addr) (m c : Nat) (bs : List ByteArray) (a x : ByteArray) (w : World) (hm : m = bs.length) (hf : fitsP bs) (hx : x.size ≤ 2147483647) (hr : Rd w B (strs bs)) :
    Calls Tryz.prog 9 #[.slice B m c, .string a, .string x] w (SaysPost (bs.map fun c => saysM c a x) w) := by
  have h0 : (w.alloc (.cells #[.string a] 9)).heap.size = w.heap.size + 1 := by simp
  have b0 := Below.one w (.cells #[.string a] 9)
  have b1 := Below.one (w.alloc (.cells #[.string a] 9)) (.cells #[.string x] 9)
  have HB := Lib.hid (Below.next b0 b1)
  have c1 : ((w.alloc (.cells #[.string a] 9)).alloc (.cells #[.string x] 9)).cell? ⟨w.heap.size, 0, none⟩ = some (.string a) := by
    rw [b1.cell (p := ⟨w.heap.size, 0, none⟩) (by rw [h0]; exact Nat.lt_succ_self _), blk_cell (blk_new w _)]; rfl
  have c2 : ((w.alloc (.cells #[.string a] 9)).alloc (.cells #[.string x] 9)).cell? ⟨w.heap.size + 1, 0, none⟩ = some (.string x) := by
    rw [← h0, blk_cell (blk_new _ _)]; rfl
  have HO := Lib.hid (ofM_any B m c bs a x w.heap.size (w.heap.size + 1) _ hm hf hx (hr.below HB.out) c1 c2)
  generalize (bs.map fun c => saysM c a x) = X at HO ⊢
  clear hm hf hr c1 c2 b0 b1 h0
  go_enter Tryz.func9, Tryz.ntmps9
  go_wp2_with fail
  refine HO.out.mono ?_
  rintro e w1 ⟨A, c, rfl, hrd, hb⟩
  have F : Hid (SaysPost X w (.returned (.slice A X.length c)) w1) := ⟨A, c, rfl, hrd, HB.out.trans (hb.mono HB.out.size)⟩
  clear hrd hb
  go_wp2
  go_ret
  exact F.out
end Go.Proofs.YtdinnpjplgkffaaGreatDoor
