/-
  Walks: spec.last, spec.NetOk, spec.Within.
-/
import Derived.Test.YtgaolfbbfdojjaaN2
namespace Go.Proofs.Ytgaolfbbfdojjaa
open Go.ChangeShapes Go.WideShapes Go.ChangeAt Go.RowKit

/-- A row of bytes of the call's own. -/
def OwnB (w : World) (base : Nat) (v : Value) (l : List UInt8) : Prop := w.ownsRow base 5 1 v l.length (u8s l)
/-- append(row, c): the row of one byte that is built ahead of it lies in the world's last block. -/
theorem wpList_push_byte {ops : Array Oper} {rest : List Oper} {o : Oper} {a : Act} {w : World} {Q : Exit → Act → World → Prop} (hgd : o.guard = none) (s x : Operand)
    (ho : o.op = .call { callee := .builtin .append, args := #[s, x], argTypes := #[22, 22] })
    (base : Nat) (v : Value) (l : List UInt8) (c : UInt8) (m : Int) (hm : m = (c.toNat : Int)) (hs : a.eval s = v) (hown : OwnB w base v l) (hx : a.eval x = .slice (some ⟨w.heap.size, 0, none⟩) 1 1)
    (hl : l.length ≤ 2147483647) (hbase : base ≤ w.heap.size)
    (h : ∀ v' w', OwnB w' base v' (l ++ [c]) → Below base w w' → wpList Try.prog ops Q rest (a.put o.dst v') w') : wpList Try.prog ops Q (o :: rest) a (w.alloc (.cells #[.int .u8 m] 5)) := by
  subst hm
  have hmax : (2147483648 : Nat) ≤ maxLen := by unfold maxLen; omega
  obtain ⟨i0, hi, hz0, hz1, hz2⟩ := info_parts info_u8
  refine wpList_append_own _ hgd s x 22 ho base 5 i0 _ 1 1 Try.underlying22 hi hz0 hz1 hz2 rfl (by decide) v _ _ hs (World.ownsRow.alloc hown _) ⟨w.heap.size, 0, none⟩ 1 1 [.int .u8 (c.toNat : Int)] hx rfl ?c1 ?c2 ?c3 ?c4 ?c5 ?_
  case c1 =>
    intro j u hj
    match j, hj with
    | 0, hj => simp at hj; subst hj; simp [Addr.add]
  case c2 => intro u hu; simp at hu; subst hu; rfl
  case c3 => omega
  case c4 => omega
  case c5 => simp; omega
  intro v' w' hown' hgrow _
  have hb : Below base w w' := ((Below.refl _ _).alloc hbase _).grown hgrow (by simp; omega) (fun k hk => (World.ownsRow.lt hown k hk).1)
  refine h v' w' ?_ hb
  unfold OwnB
  simpa [u8s] using hown'


theorem own_base {w : World} {b b' : Nat} {e : TypeId} {v : Value} {n : Nat} {xs : List Value} (h : w.ownsRow b e 1 v n xs) (hb : b' ≤ b) : w.ownsRow b' e 1 v n xs := by
  obtain ⟨h1, h2⟩ := h
  refine ⟨h1, ?_⟩
  rcases h2 with h | ⟨g, cap, cur, h3, h4, h5⟩
  · exact .inl h
  · exact .inr ⟨g, cap, cur, h3, by omega, h5⟩
def lastL (ad ms : List UInt8) : List UInt8 := List.zipWith (fun a m => a ||| ~~~m) ad ms
theorem lastL_length (ad ms : List UInt8) (h : ms.length = ad.length) : (lastL ad ms).length = ad.length := by
  unfold lastL; rw [List.length_zipWith]; omega
theorem not_nat : ∀ m : Fin 256, 255 ^^^ m.val = 255 - m.val := by decide +kernel
theorem or_not_is (a m : UInt8) : bits BinOp.or IntKind.u8 (a.toNat : Int) (bits BinOp.xor IntKind.u8 (if IntKind.u8.signed = true then -1 else IntKind.u8.max) (m.toNat : Int)) = ((a ||| ~~~m).toNat : Int) := by
  have hm := m.toNat_lt
  have e1 : (if IntKind.u8.signed = true then (-1 : Int) else IntKind.u8.max) = ((255 : Nat) : Int) := rfl
  have e2 : 255 ^^^ m.toNat = 255 - m.toNat := not_nat ⟨m.toNat, hm⟩
  have e3 : (~~~m).toNat = 255 - m.toNat := by rw [UInt8.toNat_not]; rfl
  rw [e1, u8_xor_nat 255 _ (by omega) hm, e2, ← e3, u8_or_nat _ _ a.toNat_lt (~~~m).toNat_lt, UInt8.toNat_or]
theorem andNot_is (a m : UInt8) : bits BinOp.andNot IntKind.u8 (a.toNat : Int) (m.toNat : Int) = ((a &&& ~~~m).toNat : Int) := by
  have e3 : (~~~m).toNat = 255 - m.toNat := by rw [UInt8.toNat_not]; rfl
  rw [u8_andNot_nat _ _ a.toNat_lt m.toNat_lt, ← e3, UInt8.toNat_and]
theorem lastL_get {ad ms : List UInt8} {k : Nat} (h1 : k < ad.length) (h2 : k < ms.length) (h : k < (lastL ad ms).length) : (lastL ad ms)[k]'h = ad[k] ||| ~~~ms[k] := by
  simp only [lastL, List.getElem_zipWith]
def LastPost (l : List UInt8) (w : World) (e : Ending) (w' : World) : Prop := ∃ v, e = .returned v ∧ OwnB w' w.heap.size v l ∧ Below w.heap.size w w'
set_option maxHeartbeats 1000000 in
theorem last_any (N : NetA) (w : World) (hN : NetR w N) (hal : N.ad.length ≤ 2147483647) (hml : N.ms.length ≤ 2147483647) (hm : N.ms.length = N.ad.length) :
    Calls Try.prog 24 #[netV N] w (LastPost (lastL N.ad N.ms) w) := by
  obtain ⟨B, bc, M, mc, ad, mk⟩ := N
  unfold netV
  obtain ⟨hB, hM, -⟩ := hN
  simp only at *
  have HRb := Lib.hid (hB.below (Below.one w (.cells #[.slice B ad.length bc, .slice M mk.length mc] 24)))
  have HRm := Lib.hid (hM.below (Below.one w (.cells #[.slice B ad.length bc, .slice M mk.length mc] 24)))
  have HE2 := Lib.hid hm
  clear hB hM hm
  have O0 : Hid (OwnB ((w.alloc (.cells #[.slice B ad.length bc, .slice M mk.length mc] 24)).alloc (.cells #[] 5)) (w.heap.size + 1) (.slice (some ⟨w.heap.size + 1, 0, none⟩) 0 0) []) := by
    have hs : (w.alloc (.cells #[.slice B ad.length bc, .slice M mk.length mc] 24)).heap.size = w.heap.size + 1 := by simp
    have := blk_new (w.alloc (.cells #[.slice B ad.length bc, .slice M mk.length mc] 24)) (.cells #[] 5)
    rw [hs] at this
    exact ⟨rfl, .inr ⟨w.heap.size + 1, 0, #[], rfl, Nat.le_refl _, this, Nat.le_refl _, by unfold maxLen; omega, rfl, rfl⟩⟩
  go_enter Try.func24, Try.ntmps24
  go_wp2
  go_loopg [3, 10] ad.length (fun kx v i wr => ∃ k : Nat, k ≤ ad.length ∧ ad.length - k ≤ kx ∧ i = .int .i64 k ∧ Aside (OwnB wr (w.heap.size + 1) v ((lastL ad mk).take k)) ∧ Aside (Below (w.alloc (.cells #[.slice B ad.length bc, .slice M mk.length mc] 24)).heap.size (w.alloc (.cells #[.slice B ad.length bc, .slice M mk.length mc] 24)) wr))
  case atStart => exact ⟨0, by omega, by omega, rfl, O0.out, (Below.refl _ _).alloc (Nat.le_refl _) _⟩
  case round =>
    obtain ⟨k, hk, hg, rfl, HO, HW⟩ := hrel
    have hblk : wr.heap[w.heap.size]? = some (.cells #[.slice B ad.length bc, .slice M mk.length mc] 24 (0, 0)) := (HW.out.block _ (by simp)).trans (blk_new _ _)
    have c0 : wr.cell? ⟨w.heap.size, 0, none⟩ = some (.slice B ad.length bc) := by rw [blk_cell hblk]; rfl
    have c1 : wr.cell? ⟨w.heap.size, 1, none⟩ = some (.slice M mk.length mc) := by rw [blk_cell hblk]; rfl
    clear hblk
    by_cases hlt : k < ad.length
    · have km : k < mk.length := by have := HE2.out; omega
      obtain ⟨pB, rfl, cB⟩ := (HRb.out.below HW.out).byte hlt
      obtain ⟨pM, rfl, cM⟩ := (HRm.out.below HW.out).byte km
      have hkl : k < (lastL ad mk).length := by rw [lastL_length _ _ HE2.out]; exact hlt
      have hlen : ((lastL ad mk).take k).length ≤ 2147483647 := by rw [List.length_take]; omega
      have E : Aside ((lastL ad mk).take (k + 1) = (lastL ad mk).take k ++ [ad[k]'hlt ||| ~~~(mk[k]'km)]) := by
        show _ = _
        rw [List.take_succ_eq_append_getElem hkl, lastL_get hlt km]
      have hsz : w.heap.size + 1 ≤ wr.heap.size := by have := HW.out.size; simpa using this
      generalize (lastL ad mk).take k = row at *
      go_wp2_with (at_builtin; refine wpList_push_byte rfl (.tmp 15) (.tmp 24) rfl (w.heap.size + 1) _ row (ad[k]'hlt ||| ~~~(mk[k]'km)) _ (or_not_is _ _) rfl HO.out rfl hlen hsz ?_)
      intro v1 w1 hown1 hb1
      have HO1 := Lib.hid hown1
      have HW1 := Lib.hid (HW.out.trans (hb1.mono (by simp)))
      clear hown1 hb1 HO HW c0 c1 cB cM
      go_wp2
      go_roundg (ad.length - (k + 1))
      case measure => omega
      case rel => exact ⟨k + 1, by omega, by omega, by go_num, by rw [E.out]; exact HO1.out, HW1.out⟩
    · obtain rfl : k = ad.length := by omega
      have E : Hid ((lastL ad mk).take ad.length = lastL ad mk) := by
        show _ = _
        exact List.take_of_length_le (by rw [lastL_length _ _ HE2.out]; omega)
      rw [E.out] at HO
      have HBW := Lib.hid (show Below w.heap.size w wr from (Below.one w _).trans (HW.out.mono (by simp)))
      have HO2 := Lib.hid (show OwnB wr w.heap.size _ (lastL ad mk) from own_base HO.out (by omega))
      clear HO HW E
      go_wp2
      go_ret
      exact ⟨_, rfl, HO2.out, HBW.out⟩
end Go.Proofs.Ytgaolfbbfdojjaa
