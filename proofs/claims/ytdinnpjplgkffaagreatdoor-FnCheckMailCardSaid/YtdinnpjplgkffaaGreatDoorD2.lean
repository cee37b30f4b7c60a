/-
  Rows of texts: a parameter opened, a copy, zzFits1, sumTexts, listOk; spec.DNS, laws.dns, spec.Of.
-/
import Derived.Test.YtdinnpjplgkffaaGreatDoorD1
import Derived.Laws.AppendOwnNone
namespace Go.Proofs.YtdinnpjplgkffaaGreatDoor
open Go.ChangeShapes Go.WideShapes Go.ChangeAt Go.RowKit

set_option maxRecDepth 100000
theorem cell_lt {w : World} {a : Addr} {v : Value} (h : w.cell? a = some v) : a.block < w.heap.size := by
  rcases Nat.lt_or_ge a.block w.heap.size with hlt | hge
  · exact hlt
  · unfold World.cell? at h
    rw [Array.getElem?_eq_none hge] at h
    cases h
theorem cells_string : Tryz.prog.cellsOf 9 = 1 := by kernel_rfl
/-- What a parameter of texts is read as. -/
def TextsR (w : World) (A : Option Addr) (n c : Nat) (bs : List ByteArray) : Prop := n = bs.length ∧ n ≤ c ∧ c ≤ maxLen ∧ (A = none → c = 0) ∧ (∀ x ∈ bs, x.size ≤ maxLen) ∧ Rd w A (strs bs)
theorem TextsR.below {w w' : World} {A : Option Addr} {n c : Nat} {bs : List ByteArray} (h : TextsR w A n c bs) (k : Below w.heap.size w w') : TextsR w' A n c bs := ⟨h.1, h.2.1, h.2.2.1, h.2.2.2.1, h.2.2.2.2.1, h.2.2.2.2.2.below k⟩
theorem opened_strings {H : Type} {enc : TypeId × Value → H} {W : World} {sp : Nat → Bool} {base : Nat} {v : Value} {d : DataW H} {p : List MemPlace} (hval : Value.okWide Tryz.prog W .any base 22 v) (h : DataW.Trod enc Tryz.prog W 0 sp true 22 v d p) :
    ∃ (A : Option Addr) (n c : Nat) (bs : List ByteArray), v = .slice A n c ∧ TextsR W A n c bs := by
  obtain ⟨A, n, c, rfl⟩ := okWide_slice Tryz.underlying22 hval
  obtain ⟨fuel, hf⟩ := h
  rcases open_strings Tryz.underlying22 Tryz.underlying9 cells_string hf with ⟨hcs, -⟩ | ⟨a, len', cap', ss, hcs, -, hl, hm, hz, -, hcell, hws⟩
  · simp [Value.cells] at hcs
    obtain ⟨rfl, rfl, rfl⟩ := hcs
    exact ⟨none, 0, 0, [], rfl, rfl, Nat.le_refl _, Nat.zero_le _, fun _ => rfl, fun x hx => by simp at hx, Rd.nil _ _⟩
  · simp [Value.cells] at hcs
    obtain ⟨rfl, rfl, rfl⟩ := hcs
    have hsl : n ≤ ss.length := by rw [hz]; split <;> omega
    refine ⟨some a, n, c, ss.take n, rfl, by rw [List.length_take]; omega, hl, hm, fun e => (by cases e), fun x hx => hws x (List.mem_of_mem_take hx), fun i v hv => ?_⟩
    have hi : i < (ss.take n).length := by
      have := (List.getElem?_eq_some_iff.1 hv).1
      rwa [strs_length] at this
    have hi2 : i < ss.length := by rw [List.length_take] at hi; omega
    rw [strs_get hi] at hv
    obtain rfl := Option.some.inj hv
    have hc := hcell i hi2
    have e : ss.getD i ByteArray.empty = (ss.take n)[i] := by
      rw [List.getElem_take, List.getD, List.getElem?_eq_getElem hi2]; rfl
    rw [e] at hc
    exact ⟨a, rfl, by have := cell_lt hc; rwa [add_block] at this, hc⟩

/-! ### COPIES -/
/-- A row of texts of the call's own. -/
def OwnT (w : World) (base : Nat) (v : Value) (bs : List ByteArray) : Prop := w.ownsRow base 9 1 v bs.length (strs bs)
theorem OwnT.below {w w' : World} {base : Nat} {v : Value} {l : List ByteArray} (h : OwnT w base v l) (b : Below w.heap.size w w') : OwnT w' base v l :=
  World.ownsRow.kept (row := none) h ⟨b.os, b.tape, b.output, b.size, fun k hk _ => b.block k hk⟩ (by
    cases e : v.ownBlock
    · exact .inl rfl
    · exact .inr (by simp))
/-- append(own, xs...). -/
theorem wpList_more_texts {ops : Array Oper} {rest : List Oper} {o : Oper} {a : Act} {w : World} {Q : Exit → Act → World → Prop} (hgd : o.guard = none) (s x : Operand)
    (ho : o.op = .call { callee := .builtin .append, args := #[s, x], argTypes := #[22, 22] })
    (base : Nat) (v : Value) (l0 : List ByteArray) (A : Option Addr) (n c : Nat) (l : List ByteArray) (hs : a.eval s = v) (hown : OwnT w base v l0) (hx : a.eval x = .slice A n c) (hn : n = l.length) (hA : A = none → c = 0) (hr : Rd w A (strs l))
    (hl : l0.length + l.length ≤ 2147483647) (hbase : base ≤ w.heap.size)
    (h : ∀ v' w', OwnT w' base v' (l0 ++ l) → Below base w w' → wpList Tryz.prog ops Q rest (a.put o.dst v') w') : wpList Tryz.prog ops Q (o :: rest) a w := by
  subst hn
  have hmax : (2147483648 : Nat) ≤ maxLen := by unfold maxLen; omega
  obtain ⟨i0, hi, hz0, hz1, hz2⟩ := info_parts info_string
  have ht : strs l0 ++ strs l = strs (l0 ++ l) := by simp [strs]
  cases l with
  | nil =>
    cases A with
    | none =>
      obtain rfl := hA rfl
      refine wpList_append_own_none hgd s x 22 ho base 9 i0 1 Tryz.underlying22 hi _ _ _ hs hown hx ?_
      exact h _ _ (by rw [List.append_nil]; exact hown) (Below.refl _ _)
    | some ad =>
      refine wpList_append_own _ hgd s x 22 ho base 9 i0 _ 1 16 Tryz.underlying22 hi hz0 hz1 hz2 rfl (by decide) v _ _ hs hown ad _ _ [] hx rfl (fun j v hj => by simp at hj) (fun u hu => by simp at hu) (by simp only [List.length_nil] at hl ⊢; omega) (by simp only [List.length_nil] at hl ⊢; omega) hbase fun v' w' hown' hgrow _ => ?_
      refine h v' w' ?_ ((Below.refl _ _).grown hgrow hbase (fun k hk => (World.ownsRow.lt hown k hk).1))
      rw [List.append_nil]
      simpa [OwnT] using hown'
  | cons d r =>
    obtain ⟨ad, rfl, -⟩ := hr 0 _ (strs_get (bs := d :: r) (by simp))
    refine wpList_append_own _ hgd s x 22 ho base 9 i0 _ 1 16 Tryz.underlying22 hi hz0 hz1 hz2 rfl (by decide) v _ _ hs hown ad _ _ (strs (d :: r)) hx (by rw [strs_length]; omega) (fun j v hj => ?_) (strs_one _) (by omega) (by omega) hbase fun v' w' hown' hgrow _ => ?_
    · obtain ⟨ad', e, -, hc⟩ := hr j v hj
      obtain rfl := Option.some.inj e
      exact hc
    · refine h v' w' ?_ ((Below.refl _ _).grown hgrow hbase (fun k hk => (World.ownsRow.lt hown k hk).1))
      rw [ht] at hown'
      simpa [OwnT] using hown'
/-- append(nil, xs...). -/
theorem wpList_copy_texts {ops : Array Oper} {rest : List Oper} {o : Oper} {a : Act} {w : World} {Q : Exit → Act → World → Prop} (hgd : o.guard = none) (s x : Operand)
    (ho : o.op = .call { callee := .builtin .append, args := #[s, x], argTypes := #[22, 22] })
    (base : Nat) (A : Option Addr) (n c : Nat) (l : List ByteArray) (hs : a.eval s = .slice none 0 0) (hx : a.eval x = .slice A n c) (hn : n = l.length) (hA : A = none → c = 0) (hr : Rd w A (strs l))
    (hl : l.length ≤ 2147483647) (hbase : base ≤ w.heap.size)
    (h : ∀ v' w', OwnT w' base v' l → Below w.heap.size w w' → wpList Tryz.prog ops Q rest (a.put o.dst v') w') : wpList Tryz.prog ops Q (o :: rest) a w := by
  subst hn
  have hmax : (2147483648 : Nat) ≤ maxLen := by unfold maxLen; omega
  obtain ⟨i0, hi, hz0, hz1, hz2⟩ := info_parts info_string
  cases l with
  | nil =>
    cases A with
    | none =>
      obtain rfl := hA rfl
      refine wpList_append_own_none hgd s x 22 ho base 9 i0 1 Tryz.underlying22 hi _ 0 [] hs (World.ownsRow_nil _ _ _ _) hx ?_
      exact h _ _ (World.ownsRow_nil _ _ _ _) (Below.refl _ _)
    | some ad =>
      refine wpList_append_own _ hgd s x 22 ho base 9 i0 _ 1 16 Tryz.underlying22 hi hz0 hz1 hz2 rfl (by decide) _ 0 [] hs (World.ownsRow_nil _ _ _ _) ad _ _ [] hx rfl (fun j v hj => by simp at hj) (fun u hu => by simp at hu) (by omega) (by omega) hbase fun v' w' hown hgrow _ => ?_
      refine h v' w' ?_ ((Below.refl _ _).grown hgrow (Nat.le_refl _) (fun k hk => by cases hk))
      simpa [OwnT, strs] using hown
  | cons d r =>
    obtain ⟨ad, rfl, -⟩ := hr 0 _ (strs_get (bs := d :: r) (by simp))
    refine wpList_append_own _ hgd s x 22 ho base 9 i0 _ 1 16 Tryz.underlying22 hi hz0 hz1 hz2 rfl (by decide) _ 0 [] hs (World.ownsRow_nil _ _ _ _) ad _ _ (strs (d :: r)) hx (by rw [strs_length]; omega) (fun j v hj => ?_) (strs_one _) (by omega) (by omega) hbase fun v' w' hown hgrow _ => ?_
    · obtain ⟨ad', e, -, hc⟩ := hr j v hj
      obtain rfl := Option.some.inj e
      exact hc
    · refine h v' w' ?_ ((Below.refl _ _).grown hgrow (Nat.le_refl _) (fun k hk => by cases hk))
      simpa [OwnT] using hown
/-- What a row of the call's own reads as. -/
theorem OwnT.rd {w : World} {base : Nat} {v : Value} {l : List ByteArray} (h : OwnT w base v l) : ∃ A c, v = .slice A l.length c ∧ l.length ≤ c ∧ c ≤ maxLen ∧ (A = none → c = 0) ∧ Rd w A (strs l) := by
  obtain ⟨A, cap, rfl, h1, h2, h3, -⟩ := Rd.own h
  refine ⟨A, cap, rfl, h1, h2, fun e => ?_, h3⟩
  subst e
  obtain ⟨_, h5⟩ := h
  rcases h5 with ⟨e, -⟩ | ⟨g, c', cur, e, -⟩
  · injection e
  · injection e with e1
    cases e1

/-! ### SIZES -/
def fitsP (bs : List ByteArray) : Prop := bs.length ≤ 2147483647 ∧ ∀ j (h : j < bs.length), (bs[j]).size ≤ 2147483647
set_option maxHeartbeats 1000000 in
theorem fits_any (A : Option Addr) (n c : Nat) (bs : List ByteArray) (w : World) (b : Bool) (hb : b = true ↔ fitsP bs) (hn : n = bs.length) (hl : n ≤ maxLen) (hm : ∀ x ∈ bs, x.size ≤ maxLen) (hr : Rd w A (strs bs)) :
    Calls Tryz.prog 4 #[.slice A n c] w (Ret (.bool b) w) := by
  subst hn
  have HR := Lib.hid hr
  have HB := Lib.hid hb
  have HM := Lib.hid hm
  unfold maxLen at hl
  clear hr hb hm
  by_cases h1 : 2147483647 < bs.length
  · have F : Hid (b = false) := by
      cases b
      · rfl
      · exact absurd (HB.out.1 rfl).1 (by omega)
    clear HB
    go_enter Tryz.func4, Tryz.ntmps4
    go_wp2
    go_ret
    exact ⟨ret_bool F.out.symm, Below.refl _ _⟩
  have hle : bs.length ≤ 2147483647 := by omega
  clear h1
  go_enter Tryz.func4, Tryz.ntmps4
  go_wp2
  go_loopg [10] bs.length (fun kx i wr => w = wr ∧ ∃ k : Nat, k ≤ bs.length ∧ bs.length - k ≤ kx ∧ i = .int .i64 k ∧ Aside (∀ j (h : j < bs.length), j < k → (bs[j]).size ≤ 2147483647))
  case atStart => exact ⟨rfl, 0, by omega, by omega, rfl, fun j h h' => by omega⟩
  case round =>
    obtain ⟨rfl, k, hk, hg, rfl, Q⟩ := hrel
    by_cases hlt : k < bs.length
    · obtain ⟨ad1, rfl, h1l, hc1⟩ := HR.out k _ (strs_get hlt)
      have hmx := HM.out _ (List.getElem_mem hlt)
      unfold maxLen at hmx
      by_cases hx : 2147483647 < (bs[k]).size
      · have F : Hid (b = false) := by
          cases b
          · rfl
          · exact absurd ((HB.out.1 rfl).2 k hlt) (by omega)
        clear Q HB HM
        generalize bs[k] = x at *
        go_wp2
        go_ret
        exact ⟨ret_bool F.out.symm, Below.refl _ _⟩
      · have hx' : (bs[k]).size ≤ 2147483647 := by omega
        have Q2 : Aside (∀ j (h : j < bs.length), j < k + 1 → (bs[j]).size ≤ 2147483647) := fun j h hj => by
          by_cases e : j < k
          · exact Q.out j h e
          · have : j = k := by omega
            subst this; exact hx'
        clear Q hx
        generalize bs[k] = x at *
        go_wp2
        go_roundg (bs.length - (k + 1))
        case measure => omega
        case rel => exact ⟨rfl, k + 1, by omega, by omega, by go_num, Q2⟩
    · have F : Hid (b = true) := HB.out.2 ⟨hle, fun j h => Q.out j h (by omega)⟩
      clear Q HB HM
      go_wp2
      go_ret
      exact ⟨ret_bool F.out.symm, Below.refl _ _⟩

def sumB (bs : List ByteArray) : Nat := bs.length + (bs.map (·.size)).sum
theorem take_sum {bs : List ByteArray} {k : Nat} (h : k < bs.length) : ((bs.take (k + 1)).map (·.size)).sum = ((bs.take k).map (·.size)).sum + (bs[k]).size := by
  rw [List.take_succ_eq_append_getElem h, List.map_append, List.sum_append]
  simp only [List.map_cons, List.map_nil, List.sum_cons, List.sum_nil, Nat.add_zero]
set_option maxHeartbeats 1000000 in
theorem sum_any (A : Option Addr) (n c : Nat) (bs : List ByteArray) (w : World) (hf : fitsP bs) (hn : n = bs.length) (hr : Rd w A (strs bs)) :
    Calls Tryz.prog 6 #[.slice A n c] w (Ret (.int .i64 (sumB bs)) w) := by
  subst hn
  have HR := Lib.hid hr
  have HF := Lib.hid hf.2
  have hle := hf.1
  clear hr hf
  go_enter Tryz.func6, Tryz.ntmps6
  go_wp2
  go_loopg [3, 10] bs.length (fun kx s i wr => w = wr ∧ ∃ k t : Nat, k ≤ bs.length ∧ bs.length - k ≤ kx ∧ i = .int .i64 k ∧ s = .int .i64 t ∧ t ≤ bs.length + k * 2147483647 ∧ Aside (t = bs.length + ((bs.take k).map (·.size)).sum))
  case atStart => exact ⟨rfl, 0, bs.length, by omega, by omega, rfl, rfl, by omega, by show _ = _; simp⟩
  case round =>
    obtain ⟨rfl, k, t, hk, hg, rfl, rfl, ht, Q⟩ := hrel
    by_cases hlt : k < bs.length
    · obtain ⟨ad1, rfl, h1l, hc1⟩ := HR.out k _ (strs_get hlt)
      have hx := HF.out k hlt
      have Q2 : Aside (t + (bs[k]).size = bs.length + ((bs.take (k + 1)).map (·.size)).sum) := by
        show _ = _
        rw [take_sum hlt, Q.out]; omega
      clear Q HF
      generalize bs[k] = x at *
      go_wp2
      go_roundg (bs.length - (k + 1))
      case measure => omega
      case rel => exact ⟨rfl, k + 1, t + x.size, by omega, by omega, by go_num, by go_num, by omega, Q2⟩
    · have F : Hid (t = sumB bs) := by
        show _ = _
        rw [Q.out, List.take_of_length_le (by omega)]; rfl
      clear Q HF
      go_wp2
      go_ret
      exact ⟨ret_int (by rw [F.out]), Below.refl _ _⟩


/-- A list of names of hosts in lower case, at most fifty. -/
def nameL (s : ByteArray) : Bool := nameOk (bytes s) && decide (lowL (bytes s) = bytes s)
def listP (bs : List ByteArray) : Prop := (∀ x ∈ bs, nameL x = true) ∧ bs.length ≤ 50
theorem wpList_push_int {ops : Array Oper} {rest : List Oper} {o : Oper} {a : Act} {w : World} {Q : Exit → Act → World → Prop} (hgd : o.guard = none) (s x : Operand)
    (ho : o.op = .call { callee := .builtin .append, args := #[s, x], argTypes := #[29, 29] })
    (base : Nat) (v : Value) (l : List Int) (z : Int) (hs : a.eval s = v) (hown : w.ownsRow base 3 1 v l.length (ints l)) (hx : a.eval x = .slice (some ⟨w.heap.size, 0, none⟩) 1 1)
    (hl : l.length ≤ 2147483647) (hbase : base ≤ w.heap.size)
    (h : ∀ v' w', w'.ownsRow base 3 1 v' (l ++ [z]).length (ints (l ++ [z])) → Below base w w' → wpList Tryz.prog ops Q rest (a.put o.dst v') w') : wpList Tryz.prog ops Q (o :: rest) a (w.alloc (.cells #[.int .i64 z] 3)) := by
  have hmax : (2147483648 : Nat) ≤ maxLen := by unfold maxLen; omega
  obtain ⟨i0, hi, hz0, hz1, hz2⟩ := info_parts info_int
  refine wpList_append_own _ hgd s x 29 ho base 3 i0 _ 1 8 Tryz.underlying29 hi hz0 hz1 hz2 rfl (by decide) v _ _ hs (World.ownsRow.alloc hown _) ⟨w.heap.size, 0, none⟩ 1 1 [.int .i64 z] hx rfl ?c1 ?c2 ?c3 ?c4 ?c5 ?_
  case c1 =>
    intro j u hj
    match j, hj with
    | 0, hj => simp at hj; subst hj; simp [Addr.add]
  case c2 => intro u hu; simp at hu; subst hu; rfl
  case c3 => omega
  case c4 => omega
  case c5 => simp; omega
  intro v' w' hown' hgrow _
  refine h v' w' ?_ (((Below.refl _ _).alloc hbase _).grown hgrow (by simp; omega) (fun k hk => (World.ownsRow.lt hown k hk).1))
  simpa [ints] using hown'
def SaysPost (xs : List Int) (w : World) (e : Ending) (w' : World) : Prop := ∃ A c, e = .returned (.slice A xs.length c) ∧ Rd w' A (ints xs) ∧ Below w.heap.size w w'

end Go.Proofs.YtdinnpjplgkffaaGreatDoor
