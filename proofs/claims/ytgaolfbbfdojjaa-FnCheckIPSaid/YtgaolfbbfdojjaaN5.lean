/-
  Walks: impl.copied, impl.network, bytes.Compare, ipNetworkCompare, impl.CompareIP.
-/
import Derived.Test.YtgaolfbbfdojjaaN4
import Derived.Lib.BytesEntry
import Derived.Lib.Bytealg
import Derived.Deep.RegionWith
import Derived.Laws.AppendOwnNone
namespace Go.Proofs.Ytgaolfbbfdojjaa
open Go.ChangeShapes Go.WideShapes Go.ChangeAt Go.RowKit

/-! ### COPIES -/
theorem u8s_one (l : List UInt8) : ∀ u ∈ u8s l, u.oneCell' = true := by
  intro u hu
  obtain ⟨c, -, rfl⟩ := List.mem_map.1 hu
  rfl
/-- append(nil, xs...). -/
theorem wpList_copy_bytes {ops : Array Oper} {rest : List Oper} {o : Oper} {a : Act} {w : World} {Q : Exit → Act → World → Prop} (hgd : o.guard = none) (s x : Operand)
    (ho : o.op = .call { callee := .builtin .append, args := #[s, x], argTypes := #[22, 22] })
    (base : Nat) (A : Option Addr) (n c : Nat) (l : List UInt8) (hs : a.eval s = .slice none 0 0) (hx : a.eval x = .slice A n c) (hn : n = l.length) (hA : A = none → c = 0) (hr : Rd w A (u8s l))
    (hl : l.length ≤ 2147483647) (hbase : base ≤ w.heap.size)
    (h : ∀ v' w', OwnB w' base v' l → Below w.heap.size w w' → wpList Try.prog ops Q rest (a.put o.dst v') w') : wpList Try.prog ops Q (o :: rest) a w := by
  subst hn
  have hmax : (2147483648 : Nat) ≤ maxLen := by unfold maxLen; omega
  obtain ⟨i0, hi, hz0, hz1, hz2⟩ := info_parts info_u8
  cases l with
  | nil =>
    cases A with
    | none =>
      obtain rfl := hA rfl
      refine wpList_append_own_none hgd s x 22 ho base 5 i0 1 Try.underlying22 hi _ 0 [] hs (World.ownsRow_nil _ _ _ _) hx ?_
      exact h _ _ (World.ownsRow_nil _ _ _ _) (Below.refl _ _)
    | some ad =>
      refine wpList_append_own _ hgd s x 22 ho base 5 i0 _ 1 1 Try.underlying22 hi hz0 hz1 hz2 rfl (by decide) _ 0 [] hs (World.ownsRow_nil _ _ _ _) ad _ _ [] hx rfl (fun j v hj => by simp at hj) (fun u hu => by simp at hu) (by omega) (by omega) hbase fun v' w' hown hgrow _ => ?_
      refine h v' w' ?_ ((Below.refl _ _).grown hgrow (Nat.le_refl _) (fun k hk => by cases hk))
      simpa [OwnB, u8s] using hown
  | cons d r =>
    obtain ⟨ad, rfl, hc0⟩ := hr.byte (i := 0) (by simp)
    refine wpList_append_own _ hgd s x 22 ho base 5 i0 _ 1 1 Try.underlying22 hi hz0 hz1 hz2 rfl (by decide) _ 0 [] hs (World.ownsRow_nil _ _ _ _) ad _ _ (u8s (d :: r)) hx (by rw [u8s_length]; omega) (fun j v hj => ?_) (u8s_one _) (by omega) (by omega) hbase fun v' w' hown hgrow _ => ?_
    · obtain ⟨ad', e, -, hc⟩ := hr j v hj
      obtain rfl := Option.some.inj e
      exact hc
    · refine h v' w' ?_ ((Below.refl _ _).grown hgrow (Nat.le_refl _) (fun k hk => by cases hk))
      simpa [OwnB] using hown
/-- A copy of a row. -/
def CopyPost (l : List UInt8) (w : World) (e : Ending) (w' : World) : Prop := ∃ A c, e = .returned (.slice A l.length c) ∧ l.length ≤ c ∧ c ≤ maxLen ∧ ((A = none → c = 0) ∧ ∀ ad, A = some ad → w.heap.size ≤ ad.block) ∧ Rd w' A (u8s l) ∧ Below w.heap.size w w'
theorem OwnB.copy {w w' : World} {v : Value} {l : List UInt8} (h : OwnB w' w.heap.size v l) (hb : Below w.heap.size w w') : CopyPost l w (.returned v) w' := by
  obtain ⟨A, cap, rfl, h1, h2, h3, -⟩ := Rd.own h
  refine ⟨A, cap, rfl, h1, h2, ⟨fun e => ?_, fun ad e => ?_⟩, h3, hb⟩
  · subst e
    obtain ⟨_, h5⟩ := h
    rcases h5 with ⟨e, -⟩ | ⟨g, c', cur, e, -⟩
    · injection e
    · injection e with e1
      cases e1
  · exact (World.ownsRow.lt h ad.block (by rw [e]; rfl)).1
set_option maxHeartbeats 1000000 in
theorem copied_any (A : Option Addr) (n c : Nat) (l : List UInt8) (w : World) (hn : n = l.length) (hl : l.length ≤ 2147483647) (hA : A = none → c = 0) (hr : Rd w A (u8s l)) :
    Calls Try.prog 31 #[.slice A n c] w (CopyPost l w) := by
  subst hn
  have HA := Lib.hid hA
  have HR := Lib.hid hr
  clear hA hr
  go_enter Try.func31, Try.ntmps31
  go_wp2_with (at_builtin; refine wpList_copy_bytes rfl (.const (.slice none 0 0)) (.tmp 3) rfl w.heap.size A l.length c l rfl rfl rfl HA.out HR.out hl (Nat.le_refl _) ?_)
  intro v' w' hown hb
  have HC := Lib.hid (OwnB.copy hown hb)
  clear hown hb
  go_wp2
  go_ret
  exact HC.out

/-- A network that lies in a block of its own. -/
def NetP (W : World) (g : Nat) (N : NetA) : Prop := W.heap[g]? = some (.cells #[.slice N.A N.ad.length N.c, .slice N.M N.ms.length N.d] 61 (0, 0)) ∧ NetR W N
theorem NetP.below {w w' : World} {g : Nat} {N : NetA} (h : NetP w g N) (hb : Below w.heap.size w w') : NetP w' g N := ⟨(hb.block _ (blk_lt h.1)).trans h.1, h.2.below hb⟩
def NetPost (ad ms : List UInt8) (w : World) (e : Ending) (w' : World) : Prop := ∃ (g : Nat) (N : NetA), e = .returned (.pointer (some ⟨g, 0, none⟩)) ∧ N.ad = ad ∧ N.ms = ms ∧ (w.heap.size ≤ g ∧ (∀ ad, N.A = some ad → w.heap.size ≤ ad.block) ∧ ∀ ad, N.M = some ad → w.heap.size ≤ ad.block) ∧ NetP w' g N ∧ Below w.heap.size w w'
theorem BoxR.le {w W : World} {g : Nat} {N : NetA} {A : Option Addr} (h : BoxR w g N W) (f : ∀ ad, A = some ad → W.heap.size ≤ ad.block) : ∀ ad, A = some ad → w.heap.size ≤ ad.block := fun ad e => Nat.le_trans h.2.2.size (f ad e)
set_option maxHeartbeats 1000000 in
theorem network_any (N : NetA) (w : World) (hN : NetR w N) (hal : N.ad.length ≤ 2147483647) (hml : N.ms.length ≤ 2147483647) :
    Calls Try.prog 26 #[netV N] w (NetPost N.ad N.ms w) := by
  have HX := Lib.hid (BoxR.start hN)
  obtain ⟨B, bc, M, mc, ad, mk⟩ := N
  unfold netV
  clear hN
  simp only at *
  have HC1 : Hid (∀ W, BoxR w w.heap.size ⟨B, bc, M, mc, ad, mk⟩ W → Calls Try.prog 31 #[.slice B ad.length bc] W (CopyPost ad W)) := fun W h => copied_any B _ bc ad W rfl hal h.2.1.2.2.2.2.2.2.1 h.2.1.1
  have HC2 : Hid (∀ W, BoxR w w.heap.size ⟨B, bc, M, mc, ad, mk⟩ W → Calls Try.prog 31 #[.slice M mk.length mc] W (CopyPost mk W)) := fun W h => copied_any M _ mc mk W rfl hml h.2.1.2.2.2.2.2.2.2 h.2.1.2.1
  have hx0 : BoxR w w.heap.size ⟨B, bc, M, mc, ad, mk⟩ (w.alloc (.cells #[.slice B ad.length bc, .slice M mk.length mc] 24)).drew := HX.out.next ((Below.refl _ _).drew)
  go_enter Try.func26, Try.ntmps26
  go_wp2
  go_region_with (first | ((with_reducible refine (HC1.out _ (by assumption)).mono ?_); rintro e wa ⟨A1, x1, rfl, p1, q1, ⟨r1, f1⟩, s1, hb1⟩; have hf1 := BoxR.le (by assumption) f1; have hxa := BoxR.next (by assumption) hb1; obtain ⟨k0, k1⟩ := hxa.cells; simp only at k0 k1) | ((with_reducible refine (HC2.out _ (by assumption)).mono ?_); rintro e wb ⟨A2, x2, rfl, p2, q2, ⟨r2, f2⟩, s2, hb2⟩; have hf2 := BoxR.le (by assumption) f2; have hxb := BoxR.next (by assumption) hb2; obtain ⟨k2, k3⟩ := hxb.cells; simp only at k2 k3))
  all_goals
    go_wp2
    go_ret
    first
      | exact ⟨wb.heap.size, ⟨A1, x1, A2, x2, ad, mk⟩, rfl, rfl, rfl, ⟨hxb.2.2.size, hf1, hf2⟩, ⟨blk_new _ _, (s1.below hb2).below (Below.one _ _), s2.below (Below.one _ _), p1, q1, p2, q2, r1, r2⟩, hxb.2.2.alloc hxb.2.2.size _⟩
      | exact ⟨wa.heap.size, ⟨A1, x1, A2, x2, ad, mk⟩, rfl, rfl, rfl, ⟨hxa.2.2.size, hf1, hf2⟩, ⟨blk_new _ _, s1.below (Below.one _ _), (s2.below hb1).below (Below.one _ _), p1, q1, p2, q2, r1, r2⟩, hxa.2.2.alloc hxa.2.2.size _⟩

/-! ### COMPARING -/
theorem run_compareRows (A B : Option Addr) (n m c d : Nat) (l k : List UInt8) (w : World) (hn : n = l.length) (hm : m = k.length) (ha : Rd w A (u8s l)) (hb : Rd w B (u8s k)) :
    (Extern.BytealgCompare.compare #[.slice A n c, .slice B m d]).run Try.prog w = .ok (.int .i64 (Lib.compareBytes l k)) w := by
  have hr : ∀ (A : Option Addr) (n c : Nat) (l : List UInt8), n = l.length → Rd w A (u8s l) → (Extern.Bytes.bytesOf (.slice A n c)).run Try.prog w = .ok (ofBytes l) w := by
    intro A n c l hn h
    subst hn
    cases A with
    | none =>
      cases l with
      | nil => rfl
      | cons x r =>
        obtain ⟨ad, e, -⟩ := h.byte (i := 0) (by simp)
        cases e
    | some a =>
      have := Lib.run_loadBytesX (P := Try.prog) w (l.map fun x => (x.toNat : Int)) a .empty (fun j x hj => by
        rw [List.getElem?_map, Option.map_eq_some_iff] at hj
        obtain ⟨y, hy, rfl⟩ := hj
        obtain ⟨ad, e, -, hc⟩ := h j (.int .u8 (y.toNat : Int)) (by unfold u8s; rw [List.getElem?_map, hy]; rfl)
        obtain rfl := Option.some.inj e
        exact hc)
      rw [List.length_map] at this
      change (Extern.Bytes.loadBytes a l.length .empty).run Try.prog w = _
      rw [this]
      have e : Lib.bytesOf (l.map fun x => (x.toNat : Int)) = l := by
        unfold Lib.bytesOf
        rw [List.map_map]
        conv => rhs; rw [← List.map_id l]
        refine List.map_congr_left fun x _ => ?_
        simp
      rw [e]
      simp [ofBytes]
  change Sem.run Try.prog (do pure (goInt (Extern.BytealgCompare.cmp (← Extern.Bytes.bytesOf (.slice A n c)) (← Extern.Bytes.bytesOf (.slice B m d))))) w = _
  simp only [Sem.run_bind, Sem.run_pure, Result.andThen, hr A n c l hn ha, hr B m d k hm hb]
  rw [Lib.cmp_eq]
  rfl
set_option maxHeartbeats 1000000 in
theorem compare_any (A B : Option Addr) (n m c d : Nat) (l k : List UInt8) (w : World) (hn : n = l.length) (hm : m = k.length) (ha : Rd w A (u8s l)) (hb : Rd w B (u8s k)) :
    Calls Try.prog 40 #[.slice A n c, .slice B m d] w fun e w' => e = .returned (.int .i64 (Lib.compareBytes l k)) ∧ w = w' := by
  have HC := Lib.hid (run_compareRows A B n m c d l k w hn hm ha hb)
  clear hn hm ha hb
  go_enter Try.func40, Try.ntmps40
  go_wp2
  rw [run_callFunc_extern Try.func51 (by kernel_rfl) (by kernel_rfl) (by kernel_rfl) (e := Extern.BytealgCompare.compare) (by kernel_rfl), HC.out]
  simp only [Result.andThen]
  rw [Oper.upon_value]
  go_wp2
  go_ret
  exact ⟨rfl, rfl⟩
end Go.Proofs.Ytgaolfbbfdojjaa
