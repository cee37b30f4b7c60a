/-
  Walk: domainToReverseLabels: the labels of a domain, the last one first, and whether it has such. Texts of at most 2^30 bytes.
-/
import Derived.Test.YtdnbbodolpgphaaW11
namespace Go.Proofs.Ytdnbbodolpgphaa
open Go.RowKit

theorem bytes_ix (s : ByteArray) (k : Nat) (h : k < s.size) (h' : k < (bytes s).length) : (bytes s)[k]'h' = s[k]'h := by
  have := bytes_get s k h
  rw [List.getElem?_eq_getElem h'] at this
  exact Option.some.inj this
/-- The labels, the last one first; none of nothing. -/
def revB (l : List UInt8) : List ByteArray := if l.isEmpty then [] else (labelsB l).reverse
def okL (l : List UInt8) : Bool := l.isEmpty || validN l

def RevInv (l d : List UInt8) (acc : List ByteArray) : Prop := (d ≠ [] → revB l = acc ++ (labelsB d).reverse) ∧ (d = [] → acc = revB l)
theorem RevInv.start (l : List UInt8) : RevInv l l [] := by
  unfold RevInv revB
  cases l with
  | nil => simp
  | cons c r => simp
theorem RevInv.whole {l d : List UInt8} {acc : List ByteArray} (h : RevInv l d acc) (hd : d ≠ []) (hn : ∀ c ∈ d, c ≠ 46) (x : ByteArray) (hx : bytes x = d) : RevInv l [] (acc ++ [x]) := by
  refine ⟨fun h => absurd rfl h, fun _ => ?_⟩
  rw [h.1 hd]
  unfold labelsB
  rw [splitDot_noDot _ hn]
  simp [← hx, ofBytes_bytes]
theorem labelsB_at {a b : List UInt8} (hb : ∀ c ∈ b, c ≠ 46) : labelsB (a ++ 46 :: b) = labelsB a ++ [ofBytes b] := by
  unfold labelsB
  rw [splitDot_append, splitDot_noDot _ hb]
  simp
theorem RevInv.cut {l a b : List UInt8} {acc : List ByteArray} (h : RevInv l (a ++ 46 :: b) acc) (ha : a ≠ []) (hb : ∀ c ∈ b, c ≠ 46) (x : ByteArray) (hx : bytes x = b) : RevInv l a (acc ++ [x]) := by
  refine ⟨fun _ => ?_, fun h => absurd h ha⟩
  rw [h.1 (by simp), labelsB_at hb]
  simp [← hx, ofBytes_bytes]
theorem RevInv.cut0 {l b : List UInt8} {acc : List ByteArray} (h : RevInv l (46 :: b) acc) (hb : ∀ c ∈ b, c ≠ 46) (x y : ByteArray) (hx : bytes x = b) (hy : bytes y = []) : RevInv l [] (acc ++ [x] ++ [y]) := by
  refine ⟨fun h => absurd rfl h, fun _ => ?_⟩
  rw [h.1 (by simp), show (46 :: b : List UInt8) = [] ++ 46 :: b from rfl, labelsB_at hb]
  have : labelsB [] = [y] := by
    have : y = ofBytes [] := bytes_inj (by rw [hy, bytes_ofBytes])
    rw [this]; rfl
  rw [this]
  simp [← hx, ofBytes_bytes]

theorem revB_mem {l : List UInt8} {x : ByteArray} (h : x ∈ revB l) : bytes x ∈ splitDot l := by
  unfold revB at h
  split at h
  · simp at h
  · rw [List.mem_reverse] at h
    obtain ⟨y, hy, rfl⟩ := List.mem_map.1 h
    rw [bytes_ofBytes]; exact hy
theorem revB_mem' {l x : List UInt8} (hl : l.isEmpty = false) (h : x ∈ splitDot l) : ofBytes x ∈ revB l := by
  unfold revB
  rw [hl, if_neg (by simp), List.mem_reverse]
  exact List.mem_map.2 ⟨x, h, rfl⟩
theorem splitDot_sub : ∀ (l x : List UInt8) (c : UInt8), x ∈ splitDot l → c ∈ x → c ∈ l
  | [], x, c, h, hc => by simp [splitDot] at h; subst h; simp at hc
  | d :: r, x, c, h, hc => by
    unfold splitDot at h
    split at h
    · rcases List.mem_cons.1 h with rfl | h
      · simp at hc
      · exact List.mem_cons_of_mem _ (splitDot_sub r x c h hc)
    · cases hs : splitDot r with
      | nil => exact absurd hs (splitDot_ne r)
      | cons a t =>
        rw [hs] at h
        rcases List.mem_cons.1 h with rfl | h
        · rcases List.mem_cons.1 hc with rfl | hc
          · simp
          · exact List.mem_cons_of_mem _ (splitDot_sub r a c (by rw [hs]; simp) hc)
        · exact List.mem_cons_of_mem _ (splitDot_sub r x c (by rw [hs]; simp [h]) hc)
theorem okL_empty {l : List UInt8} {x : ByteArray} (h : x ∈ revB l) (hx : x.size = 0) : okL l = false := by
  have hm := revB_mem h
  have hne : l.isEmpty = false := by
    cases l with
    | nil => simp [revB] at h
    | cons _ _ => rfl
  have : bytes x = [] := List.eq_nil_of_length_eq_zero (by rw [bytes_length]; exact hx)
  rw [this] at hm
  unfold okL validN
  rw [hne, Bool.false_or, Bool.and_eq_false_iff]
  right
  rw [List.all_eq_false]
  exact ⟨[], hm, by simp⟩
theorem okL_byte {l : List UInt8} {x : ByteArray} (h : x ∈ revB l) (j : Nat) (hj : j < x.size) (hv : visB (x[j]'hj).toNat = false) : okL l = false := by
  have hm := revB_mem h
  have hne : l.isEmpty = false := by
    cases l with
    | nil => simp [revB] at h
    | cons _ _ => rfl
  have hjl : j < (bytes x).length := by rw [bytes_length]; exact hj
  have hc := splitDot_sub l _ _ hm (List.getElem_mem hjl)
  rw [bytes_ix x j hj hjl] at hc
  unfold okL validN
  rw [hne, Bool.false_or, Bool.and_eq_false_iff]
  left
  rw [List.all_eq_false]
  exact ⟨_, hc, by simp [hv]⟩
/-- A label that is not empty, of visible bytes. -/
def GoodLab (x : ByteArray) : Prop := 0 < x.size ∧ ∀ j (hj : j < x.size), visB (x[j]'hj).toNat = true
theorem okL_all {l : List UInt8} (h : ∀ x ∈ revB l, GoodLab x) : okL l = true := by
  unfold okL
  cases hl : l.isEmpty with
  | true => rfl
  | false =>
    rw [Bool.false_or]
    unfold validN
    rw [Bool.and_eq_true, List.all_eq_true, List.all_eq_true]
    have key : ∀ x ∈ splitDot l, 0 < x.length ∧ ∀ c ∈ x, visB c.toNat = true := fun x hx => by
      have := h _ (revB_mem' hl hx)
      obtain ⟨h1, h2⟩ := this
      have e : (ofBytes x).size = x.length := by rw [← bytes_length, bytes_ofBytes]
      refine ⟨by omega, fun c hc => ?_⟩
      obtain ⟨j, hj, rfl⟩ := List.getElem_of_mem hc
      have := h2 j (by omega)
      have e2 := bytes_ix (ofBytes x) j (by omega) (by rw [bytes_ofBytes]; exact hj)
      rw [← e2] at this
      simpa [bytes_ofBytes] using this
    refine ⟨fun c hc => ?_, fun x hx => ?_⟩
    · rcases mem_splitDot l c hc with rfl | ⟨x, hx, hcx⟩
      · rfl
      · exact (key x hx).2 c hcx
    · have := (key x hx).1
      cases x with
      | nil => simp at this
      | cons _ _ => rfl

/-- What is told: the labels where the domain has such. -/
def RevPost (w : World) (l : List UInt8) (e : Ending) (w' : World) : Prop :=
  ∃ v, e = .returned (.tuple #[v, .bool (okL l)]) ∧ (okL l = true → w'.ownsRow w.heap.size 9 1 v (revB l).length (strs (revB l))) ∧ (okL l = false → v = .slice none 0 0) ∧ Below w.heap.size w w'

theorem RevPost.no {w w' : World} {l : List UInt8} (F : okL l = false) (hb : Below w.heap.size w w') : RevPost w l (.returned (.tuple #[.slice none 0 0, .bool false])) w' := by
  refine ⟨.slice none 0 0, by rw [F], ?_, fun _ => rfl, hb⟩
  intro h
  rw [F] at h
  cases h
theorem own_below {w w' : World} {base : Nat} {e : TypeId} {v : Value} {n : Nat} {xs : List Value} (h : w.ownsRow base e 1 v n xs) (hb : Below w.heap.size w w') : w'.ownsRow base e 1 v n xs := by
  refine World.ownsRow.kept (row := none) h ⟨hb.os, hb.tape, hb.output, hb.size, fun i hi _ => hb.block i hi⟩ ?_
  cases hv : v.ownBlock with
  | none => exact .inl rfl
  | some k => exact .inr (by simp)
theorem RevPost.yes {w w' : World} {l : List UInt8} {A : Option Addr} {c : Nat} (F : okL l = true) (ho : w'.ownsRow w.heap.size 9 1 (.slice A (revB l).length c) (revB l).length (strs (revB l))) (hb : Below w.heap.size w w') : RevPost w l (.returned (.tuple #[.slice A (revB l).length c, .bool true])) w' :=
  by
  refine ⟨_, by rw [F], fun _ => ho, ?_, hb⟩
  intro h
  rw [F] at h
  cases h
theorem ret_pair {v : Value} {a b : Bool} (h : a = b) : Ending.returned (.tuple #[v, .bool a]) = .returned (.tuple #[v, .bool b]) := by rw [h]

theorem own_snoc {w : World} {base : Nat} {v : Value} {acc : List ByteArray} {x : ByteArray} (h : w.ownsRow base 9 1 v (acc.length + 1) (strs acc ++ [.string x])) : w.ownsRow base 9 1 v (acc ++ [x]).length (strs (acc ++ [x])) := by
  have e : (acc ++ [x]).length = acc.length + 1 := by simp
  rw [e]
  simpa [strs] using h

set_option maxHeartbeats 4000000 in
theorem revLabels_any (s : ByteArray) (hs : s.size ≤ 1073741824) (w : World) :
    Calls Try.prog 67 #[.string s] w (RevPost w (bytes s)) := by
  have hmax : (2147483648 : Nat) ≤ maxLen := by unfold maxLen; omega
  obtain ⟨i0, hi, hz0, hz1, hz2⟩ := info_parts info_string
  have I0 : Aside (RevInv (bytes s) (bytes s) []) := RevInv.start _
  have HC := Lib.hid (fun W => count_any s (by omega) W)
  go_enter Try.func67, Try.ntmps67
  go_wp2_with (first | (go_at_call 74; refine (HC.out _).mono ?_; rintro e w1 ⟨n, hn, rfl, rfl⟩) | (at_make; refine wpList_make_own _ rfl _ _ 24 rfl w.heap.size 9 i0 _ 1 Try.underlying24 hi hz0 hz1 .i64 .i64 _ (n + 1) rfl rfl (by omega) (by rw [hz2]; omega) (by omega) (Nat.le_refl _) ?_; intro w2 hown0 hgr0))
  have hb0 : Below w.heap.size w w2 := (Below.refl _ _).grown hgr0 (Nat.le_refl _) (fun k hk => by cases hk)
  clear hgr0 HC hn
  go_loopg [0, 2] (s.size + 1) (fun kx dm v wr => ∃ (d : ByteArray) (acc : List ByteArray), dm = .string d ∧ d.size + 1 ≤ kx ∧ d.size ≤ s.size ∧ (0 < d.size → acc.length + d.size ≤ s.size) ∧ acc.length ≤ s.size + 1 ∧ Aside (RevInv (bytes s) (bytes d) acc) ∧ wr.ownsRow w.heap.size 9 1 v acc.length (strs acc) ∧ Below w.heap.size w wr)
  case atStart => exact ⟨s, [], rfl, by omega, by omega, by simp, by simp, I0, hown0, hb0⟩
  case round =>
    clear I0 hown0 hb0
    obtain ⟨d, acc, rfl, hg, hd, hacc, hacc2, A, hown, hb⟩ := hrel
    have hsz := hb.size
    by_cases hpos : 0 < d.size
    · have hacc := hacc hpos
      have HLI := Lib.hid (fun W => lastIndex_any d (by omega) W)
      go_wp2_with fail
      refine (HLI.out _).mono ?_
      rintro e w1 ⟨r, hr, rfl, rfl⟩
      rcases hr with ⟨rfl, hno⟩ | ⟨p, q, hpq, hq, rfl⟩
      · have hdne : bytes d ≠ [] := fun h => by have := bytes_length d; rw [h] at this; simp at this; omega
        have A2 : Aside (RevInv (bytes s) (bytes ⟨#[]⟩) (acc ++ [d])) := A.out.whole hdne hno d rfl
        have hal : (acc ++ [d]).length ≤ s.size + 1 := by simp; omega
        have HAL := Lib.hid hal
        clear A hno hdne hal HLI
        go_wp2_with (at_builtin; refine wpList_append_own _ rfl _ _ 24 rfl w.heap.size 9 i0 _ 1 16 Try.underlying24 hi hz0 hz1 hz2 rfl (by decide) _ _ _ rfl (hown.alloc _) ⟨wr.heap.size, 0, none⟩ 1 1 [.string d] rfl rfl ?a1 ?a2 ?a3 ?a4 ?a5 ?_)
        case a1 =>
          intro j u hj
          match j, hj with
          | 0, hj => simp at hj; subst hj; simp [Addr.add]
        case a2 => intro u hu; simp at hu; subst hu; rfl
        case a3 => omega
        case a4 => omega
        case a5 => simp; omega
        intro v' w1 hown' hgrow _
        have hb1 : Below w.heap.size w w1 := (hb.alloc hsz _).grown hgrow (by simp; omega) (fun k hk => (hown.lt k hk).1)
        have hown2 := Lib.hid (own_snoc hown')
        clear hown' hgrow hown hb
        go_wp2
        go_roundg 1
        case measure => omega
        case rel => exact ⟨⟨#[]⟩, acc ++ [d], rfl, by simp [ByteArray.size_mk'], by simp [ByteArray.size_mk'], by simp [ByteArray.size_mk'], HAL.out, A2, hown2.out, hb1⟩
      · have hdl : d.size = p.length + 1 + q.length := by rw [← bytes_length, hpq]; simp; omega
        have hdl1 : p.length + 1 ≤ d.size := by omega
        have hb1e : bytes (d.extract (p.length + 1) d.size) = q := by
          rw [bytes_extract, hpq, List.take_of_length_le (by rw [List.length_drop]; simp; omega), ← List.drop_drop, List.drop_left' rfl]; rfl
        have hb2e : bytes (d.extract 0 p.length) = p := by
          rw [bytes_extract, hpq, List.drop_zero, Nat.sub_zero, List.take_left' rfl]
        have hm1 : ((p.length : Int) == -1) = false := by simp
        obtain ⟨x, hx⟩ : ∃ x, d.extract (p.length + 1) d.size = x := ⟨_, rfl⟩
        obtain ⟨y, hy⟩ : ∃ y, d.extract 0 p.length = y := ⟨_, rfl⟩
        rw [hx] at hb1e
        rw [hy] at hb2e
        rw [hpq] at A
        have hys : y.size = p.length := by rw [← bytes_length, hb2e]
        have A3 := Lib.hid A.out
        have HB1 := Lib.hid hb1e
        have HB2 := Lib.hid hb2e
        have HYS := Lib.hid hys
        have HDL := Lib.hid hdl
        have HQ := Lib.hid hq
        clear A hpq hq hb1e hb2e hys hdl HLI
        by_cases hp0 : p.length = 0
        · have hp0' : ((p.length : Int) == 0) = true := beq_iff_eq.2 (by omega)
          have A4 : Hid (RevInv (bytes s) (bytes y) (acc ++ [x] ++ [⟨#[]⟩])) := by
            have hpn : p = [] := List.eq_nil_of_length_eq_zero hp0
            have h := A3.out
            subst hpn
            rw [HB2.out]
            exact h.cut0 HQ.out x ⟨#[]⟩ HB1.out rfl
          have hy0 : y.size = 0 := by rw [HYS.out, hp0]
          have HY0 := Lib.hid hy0
          clear hp0 hy0 A3
          go_wp2_with (at_builtin; refine wpList_append_own _ rfl (.tmp 24) (.tmp 29) 24 rfl w.heap.size 9 i0 _ 1 16 Try.underlying24 hi hz0 hz1 hz2 rfl (by decide) _ _ _ rfl (hown.alloc _) ⟨wr.heap.size, 0, none⟩ 1 1 [.string x] rfl rfl ?c1 ?c2 ?c3 ?c4 ?c5 ?_)
          case c1 =>
            intro j u hj
            match j, hj with
            | 0, hj => simp at hj; subst hj; simp [Addr.add]
          case c2 => intro u hu; simp at hu; subst hu; rfl
          case c3 => omega
          case c4 => omega
          case c5 => simp; omega
          intro v' w1 hown' hgrow _
          have hb1 : Below w.heap.size w w1 := (hb.alloc hsz _).grown hgrow (by simp; omega) (fun k hk => (hown.lt k hk).1)
          have hown2 := own_snoc hown'
          have hsz1 := hb1.size
          have hal1 : (acc ++ [x]).length ≤ s.size := by simp; omega
          have HAL1 := Lib.hid hal1
          clear hown' hgrow hown hb hal1
          generalize hacc1 : acc ++ [x] = acc1 at *
          have HA1 := Lib.hid hacc1
          clear hacc1
          have hal2 := HAL1.out
          go_wp2_with (at_builtin; refine wpList_append_own _ rfl (.tmp 36) (.tmp 37) 24 rfl w.heap.size 9 i0 _ 1 16 Try.underlying24 hi hz0 hz1 hz2 rfl (by decide) _ _ _ rfl (hown2.alloc _) ⟨w1.heap.size, 0, none⟩ 1 1 [.string ⟨#[]⟩] rfl rfl ?d1 ?d2 ?d3 ?d4 ?d5 ?_)
          case d1 =>
            intro j u hj
            match j, hj with
            | 0, hj => simp at hj; subst hj; simp [Addr.add]
          case d2 => intro u hu; simp at hu; subst hu; rfl
          case d3 => omega
          case d4 => omega
          case d5 => simp; omega
          intro v2 w2 hown3 hgrow2 _
          have hb2 : Below w.heap.size w w2 := (hb1.alloc hsz1 _).grown hgrow2 (by simp; omega) (fun k hk => (hown2.lt k hk).1)
          have hown4 := Lib.hid (own_snoc hown3)
          have hal3 : (acc1 ++ [(⟨#[]⟩ : ByteArray)]).length ≤ s.size + 1 := by simp; omega
          have HAL3 := Lib.hid hal3
          clear hown3 hgrow2 hown2 hb1 hal3
          go_wp2
          go_roundg (y.size + 1)
          case measure => have := HY0.out; omega
          case rel => exact ⟨y, acc1 ++ [(⟨#[]⟩ : ByteArray)], rfl, by omega, by have := HY0.out; omega, by have := HY0.out; omega, HAL3.out, A4.out, hown4.out, hb2⟩
        · have hp0' : ((p.length : Int) == 0) = false := beq_eq_false_iff_ne.2 (by omega)
          have A4 : Hid (RevInv (bytes s) (bytes y) (acc ++ [x])) := by
            have h := A3.out
            rw [HB2.out]
            exact h.cut (fun h => hp0 (by rw [h]; rfl)) HQ.out x HB1.out
          have hal : (acc ++ [x]).length + y.size ≤ s.size := by rw [HYS.out]; simp; omega
          have HAL := Lib.hid hal
          clear hp0 A3 hal
          go_wp2_with (at_builtin; refine wpList_append_own _ rfl _ _ 24 rfl w.heap.size 9 i0 _ 1 16 Try.underlying24 hi hz0 hz1 hz2 rfl (by decide) _ _ _ rfl (hown.alloc _) ⟨wr.heap.size, 0, none⟩ 1 1 [.string x] rfl rfl ?b1 ?b2 ?b3 ?b4 ?b5 ?_)
          case b1 =>
            intro j u hj
            match j, hj with
            | 0, hj => simp at hj; subst hj; simp [Addr.add]
          case b2 => intro u hu; simp at hu; subst hu; rfl
          case b3 => omega
          case b4 => omega
          case b5 => simp; omega
          intro v' w1 hown' hgrow _
          have hb1 : Below w.heap.size w w1 := (hb.alloc hsz _).grown hgrow (by simp; omega) (fun k hk => (hown.lt k hk).1)
          have hown2 := Lib.hid (own_snoc hown')
          clear hown' hgrow hown hb
          go_wp2
          go_roundg (y.size + 1)
          case measure => have := HYS.out; omega
          case rel => exact ⟨y, acc ++ [x], rfl, by omega, by have := HYS.out; omega, fun _ => HAL.out, by have := HAL.out; omega, A4.out, hown2.out, hb1⟩
    · have hd0 : d.size = 0 := by omega
      have hdn : bytes d = [] := List.eq_nil_of_length_eq_zero (by rw [bytes_length]; exact hd0)
      have hR := A.out.2 hdn
      subst hR
      have HO := Lib.hid hown
      obtain ⟨B, cap, rfl, hnc, hcap, hrd, hll⟩ := Rd.own hown
      have HR := Lib.hid hrd
      clear A hdn hg hd hacc hd0 hown hrd hll
      by_cases hn : 0 < (revB (bytes s)).length
      · obtain ⟨ad, rfl, had, hc⟩ := HR.out 0 _ (strs_get hn)
        rw [show ad.add 0 = ad by simp [Addr.add]] at hc
        by_cases h00 : ((revB (bytes s))[0]'hn).size = 0
        · have F := Lib.hid (okL_empty (List.getElem_mem hn) h00)
          have h00' : ((((revB (bytes s))[0]'hn).size : Int) == 0) = true := beq_iff_eq.2 (by omega)
          clear h00
          generalize (revB (bytes s))[0]'hn = x at *
          go_wp2
          go_ret2
          exact RevPost.no F.out hb
        · have h00' : ((((revB (bytes s))[0]'hn).size : Int) == 0) = false := beq_eq_false_iff_ne.2 (by omega)
          clear h00
          generalize (revB (bytes s))[0]'hn = x at *
          go_wp2
          obtain ⟨wo, rfl⟩ : ∃ wo : World, wo = wr := ⟨_, rfl⟩
          have HB0 := Lib.hid hb
          clear hb
          go_loopg [2, 51] (revB (bytes s)).length (fun kx v i wq => ∃ k : Nat, k ≤ (revB (bytes s)).length ∧ (revB (bytes s)).length - k ≤ kx ∧ v = .slice (some ad) (revB (bytes s)).length cap ∧ i = .int .i64 k ∧ Aside (∀ j (h : j < (revB (bytes s)).length), j < k → GoodLab ((revB (bytes s))[j])) ∧ Aside (Below wo.heap.size wo wq))
          case atStart => exact ⟨0, by omega, by omega, rfl, rfl, fun j h h' => by omega, Below.refl _ _⟩
          case round =>
            obtain ⟨k, hk, hg, rfl, rfl, Q, hbq⟩ := hrel
            by_cases hlt : k < (revB (bytes s)).length
            · have hnn : 0 < (revB (bytes s)).length := by omega
              obtain ⟨ad2, had2, -, hc2⟩ := (HR.out.below hbq.out) k _ (strs_get hlt)
              have hmem := Lib.hid (List.getElem_mem hlt)
              have Q2 : Aside (GoodLab ((revB (bytes s))[k]'hlt) → ∀ j (h : j < (revB (bytes s)).length), j < k + 1 → GoodLab ((revB (bytes s))[j])) := fun hx j h hj => by
                by_cases e : j < k
                · exact Q.out j h e
                · have : j = k := by omega
                  subst this; exact hx
              clear Q
              cases had2
              by_cases hx0 : ((revB (bytes s))[k]'hlt).size = 0
              · have F := Lib.hid (okL_empty hmem.out hx0)
                have hx0' : ((((revB (bytes s))[k]'hlt).size : Int) == 0) = true := beq_iff_eq.2 (by omega)
                clear hx0 Q2
                generalize (revB (bytes s))[k]'hlt = x at *
                go_wp2
                try (go_ret2; exact RevPost.no F.out (Below.next HB0.out hbq.out))
              · have hx0' : ((((revB (bytes s))[k]'hlt).size : Int) == 0) = false := beq_eq_false_iff_ne.2 (by omega)
                have hxp : 0 < ((revB (bytes s))[k]'hlt).size := by omega
                clear hx0
                generalize (revB (bytes s))[k]'hlt = y at *
                go_wp2
                obtain ⟨wi, rfl⟩ : ∃ wi : World, wi = wr := ⟨_, rfl⟩
                have J0 : Aside (∀ j (h : j < y.size), j < 0 → visB (y[j]'h).toNat = true) := fun j h h' => by omega
                go_loopg [2] y.size (fun ky v wj => ∃ pos : Nat, y.size - pos ≤ ky ∧ pos ≤ y.size ∧ v = .slice (some ad) (revB (bytes s)).length cap ∧ wj = wi.iter y pos ∧ Aside (∀ j (h : j < y.size), j < pos → visB (y[j]'h).toNat = true))
                case atStart => exact ⟨0, by omega, by omega, rfl, rfl, J0⟩
                case round =>
                  clear J0
                  obtain ⟨pos, hgp, hpl, rfl, rfl, J⟩ := hrel
                  by_cases hpos2 : pos < y.size
                  · have hnext := fun ty => run_next_any (P := Try.prog) wi y pos ty hpos2
                    by_cases hv : visB (y[pos]'hpos2).toNat = true
                    · have hv2 : 33 ≤ (y[pos]'hpos2).toNat ∧ (y[pos]'hpos2).toNat ≤ 126 := by unfold visB at hv; simp at hv; exact hv
                      rw [decode_ascii y pos hpos2 (by omega)] at hnext
                      have J2 : Aside (∀ j (h : j < y.size), j < pos + 1 → visB (y[j]'h).toNat = true) := fun j h hj => by
                        by_cases e : j < pos
                        · exact J.out j h e
                        · have : j = pos := by omega
                          subst this; exact hv
                      obtain ⟨hv3, hv4⟩ := hv2
                      clear J hv
                      go_wp2
                      go_roundg (y.size - (pos + 1))
                      case measure => omega
                      case rel => exact ⟨pos + 1, by omega, by omega, rfl, rfl, J2⟩
                    · have hv' : visB (y[pos]'hpos2).toNat = false := by simpa using hv
                      have F := Lib.hid (okL_byte hmem.out pos hpos2 hv')
                      have hle := decode_le y pos
                      have hr : (Utf8.decode y pos).1 < 33 ∨ (33 ≤ (Utf8.decode y pos).1 ∧ 126 < (Utf8.decode y pos).1) := by
                        by_cases h128 : (y[pos]'hpos2).toNat < 128
                        · rw [decode_ascii y pos hpos2 h128]
                          unfold visB at hv'
                          simp at hv' ⊢
                          omega
                        · have := (decode_high y pos hpos2 (by omega)).1
                          omega
                      clear hv hv' J Q2
                      generalize (Utf8.decode y pos).1 = r at *
                      generalize (Utf8.decode y pos).2 = m at *
                      rcases hr with h1 | ⟨h1, h2⟩
                      all_goals
                        go_wp2
                        try (go_ret2; exact RevPost.no F.out ((Below.next HB0.out hbq.out).alloc (Nat.le_trans HB0.out.size hbq.out.size) _))
                  · have hnext := fun ty => run_next_end (P := Try.prog) wi y pos ty hpos2
                    have Q3 := Lib.hid (Q2.out ⟨hxp, fun j hj => J.out j hj (by omega)⟩)
                    have hb3 := Lib.hid (Below.alloc hbq.out hbq.out.size (.stringIter y pos))
                    clear J Q2 hxp
                    go_wp2
                    go_roundg ((revB (bytes s)).length - (k + 1))
                    case measure => omega
                    case rel => exact ⟨k + 1, by omega, by omega, rfl, by go_num, Q3.out, hb3.out⟩
            · have F := Lib.hid (okL_all (l := bytes s) fun x hx => by
                obtain ⟨j, hj, rfl⟩ := List.getElem_of_mem hx
                exact Q.out j hj (by omega))
              clear Q
              go_wp2
              go_ret2
              exact RevPost.yes F.out (own_below HO.out hbq.out) (Below.next HB0.out hbq.out)
      · have hn0 : (revB (bytes s)).length = 0 := by omega
        have hn1 : decide ((0 : Int) < ((revB (bytes s)).length : Int)) = false := decide_eq_false (by omega)
        clear hn0
        go_wp2
        obtain ⟨wo, rfl⟩ : ∃ wo : World, wo = wr := ⟨_, rfl⟩
        have HB0 := Lib.hid hb
        clear hb
        go_loopg [2, 51] (revB (bytes s)).length (fun kx v i wq => ∃ k : Nat, k ≤ (revB (bytes s)).length ∧ v = .slice B (revB (bytes s)).length cap ∧ i = .int .i64 k ∧ Aside (Below wo.heap.size wo wq))
        case atStart => exact ⟨0, by omega, rfl, rfl, Below.refl _ _⟩
        case round =>
          obtain ⟨k, hk, rfl, rfl, hbq⟩ := hrel
          have F := Lib.hid (okL_all (l := bytes s) fun x hx => by
            obtain ⟨j, hj, rfl⟩ := List.getElem_of_mem hx
            exact absurd (Nat.lt_of_le_of_lt (Nat.zero_le _) hj) hn)
          have hkn : ¬ (k : Int) < ((revB (bytes s)).length : Int) := by omega
          go_wp2
          go_ret2
          exact RevPost.yes F.out (own_below HO.out hbq.out) (Below.next HB0.out hbq.out)

theorem zzRev_any (s : ByteArray) (hs : s.size ≤ 1073741824) (w : World) :
    Calls Try.prog 55 #[.string s] w (RevPost w (bytes s)) := by
  go_enter Try.func55, Try.ntmps55
  go_wp2_with (go_at_call 67; refine (revLabels_any s hs _).mono ?_; rintro e w1 ⟨v, rfl, h2⟩; have H2 := Lib.hid h2; clear h2)
  go_ret2
  exact ⟨_, rfl, H2.out⟩

/-- What impl.Labels tells: a copy. -/
def LabelsPost (w : World) (l : List UInt8) (e : Ending) (w' : World) : Prop :=
  ∃ v, e = .returned (.tuple #[v, .bool (okL l)]) ∧ (okL l = true → w'.ownsRow w.heap.size 9 1 v (revB l).length (strs (revB l))) ∧ Below w.heap.size w w'
set_option maxHeartbeats 1000000 in
theorem implLabels_any (s : ByteArray) (hs : s.size ≤ 1073741824) (w : World) :
    Calls Try.prog 32 #[.string s] w (LabelsPost w (bytes s)) := by
  have hmax : (2147483648 : Nat) ≤ maxLen := by unfold maxLen; omega
  obtain ⟨i0, hi, hz0, hz1, hz2⟩ := info_parts info_string
  have HZ := Lib.hid (fun W => zzRev_any s hs W)
  have hlen : (revB (bytes s)).length ≤ s.size + 1 := by
    unfold revB
    split
    · simp
    · rw [List.length_reverse]
      have := splitDot_length_le (bytes s)
      rw [bytes_length] at this
      simpa [labelsB] using this
  have HLen := Lib.hid hlen
  clear hlen
  go_enter Try.func32, Try.ntmps32
  go_wp2_with fail
  refine (HZ.out _).mono ?_
  rintro e w1 ⟨v, rfl, hown, hnil, hb⟩
  cases hok : okL (bytes s)
  · obtain rfl := hnil hok
    have HK := Lib.hid hok
    clear hown hnil hok
    go_wp2_with (at_builtin; refine wpList_append_own_none rfl _ _ 24 rfl w.heap.size 9 i0 1 Try.underlying24 hi _ 0 [] rfl (World.ownsRow_nil _ _ _ _) rfl ?_)
    go_ret2
    exact ⟨_, ret_pair HK.out.symm, fun h => absurd (HK.out.symm.trans h) (by simp), hb⟩
  · have HK := Lib.hid hok
    have ho := hown hok
    clear hown hnil hok
    have hsz := hb.size
    obtain ⟨A, cap, rfl, hnc, hcap, hrd, hll⟩ := Rd.own ho
    have HR := Lib.hid hrd
    have HCap : Hid (A = none → cap = 0) := by
      intro hA
      subst hA
      rcases ho.2 with ⟨he, _⟩ | ⟨g, c2, cur, he, _⟩
      · injection he
      · injection he with h1 _ _
        cases h1
    clear ho hrd hll
    cases A with
    | none =>
      have h0 : (revB (bytes s)).length = 0 := by
        rcases Nat.eq_zero_or_pos (revB (bytes s)).length with h | h
        · exact h
        · obtain ⟨ad, he, _⟩ := HR.out 0 _ (strs_get h)
          cases he
      have hn : revB (bytes s) = [] := List.eq_nil_of_length_eq_zero h0
      have hcap0 := HCap.out rfl
      subst hcap0
      rw [h0]
      have HN := Lib.hid hn
      clear hn h0 hnc
      go_wp2_with (at_builtin; refine wpList_append_own_none rfl _ _ 24 rfl w.heap.size 9 i0 1 Try.underlying24 hi _ 0 [] rfl (World.ownsRow_nil _ _ _ _) rfl ?_)
      go_ret2
      exact ⟨_, ret_pair HK.out.symm, fun _ => by rw [HN.out]; exact World.ownsRow_nil _ _ _ _, hb⟩
    | some ad =>
      have hl := HLen.out
      go_wp2_with (at_builtin; refine wpList_append_own _ rfl _ _ 24 rfl w.heap.size 9 i0 _ 1 16 Try.underlying24 hi hz0 hz1 hz2 rfl (by decide) _ 0 [] rfl (World.ownsRow_nil _ _ _ _) ad _ _ (strs (revB (bytes s))) rfl (by rw [strs_length]; omega) ?c1 (strs_one _) ?c3 ?c4 ?c5 ?_)
      case c1 =>
        intro j u hj
        obtain ⟨ad2, he, _, hc⟩ := HR.out j u hj
        cases he
        exact hc
      case c3 => omega
      case c4 => omega
      case c5 => exact hsz
      intro v' w2 hown' hgrow _
      have hb1 : Below w.heap.size w w2 := hb.grown hgrow hsz (fun k hk => by cases hk)
      have hown2 := Lib.hid hown'
      clear hown' hgrow hb
      go_wp2
      go_ret2
      exact ⟨v', ret_pair HK.out.symm, fun _ => by simpa using hown2.out, hb1⟩
end Go.Proofs.Ytdnbbodolpgphaa
