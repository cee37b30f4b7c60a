/-
  A byte appended to a row of the call's own; walk: spec.Quoted. Texts of at most 2^29 bytes.
-/
import Derived.Test.YtdinnpjplgkffaaGreatDoorM3
namespace Go.Proofs.YtdinnpjplgkffaaGreatDoor
open Go.RowKit

theorem u8s_length (l : List UInt8) : (u8s l).length = l.length := by simp [u8s]
/-- A row of bytes of the call's own. -/
def OwnB (w : World) (base : Nat) (v : Value) (l : List UInt8) : Prop := w.ownsRow base 5 1 v l.length (u8s l)
/-- append(row, c): the row of one byte that is built ahead of it lies in the world's last block. -/
theorem wpList_push_byte {ops : Array Oper} {rest : List Oper} {o : Oper} {a : Act} {w : World} {Q : Exit → Act → World → Prop} (hgd : o.guard = none) (s x : Operand)
    (ho : o.op = .call { callee := .builtin .append, args := #[s, x], argTypes := #[70, 70] })
    (base : Nat) (v : Value) (l : List UInt8) (c : UInt8) (m : Int) (hm : m = (c.toNat : Int)) (hs : a.eval s = v) (hown : OwnB w base v l) (hx : a.eval x = .slice (some ⟨w.heap.size, 0, none⟩) 1 1)
    (hl : l.length ≤ 2147483647) (hbase : base ≤ w.heap.size)
    (h : ∀ v' w', OwnB w' base v' (l ++ [c]) → Below base w w' → wpList Tryz.prog ops Q rest (a.put o.dst v') w') : wpList Tryz.prog ops Q (o :: rest) a (w.alloc (.cells #[.int .u8 m] 5)) := by
  subst hm
  have hmax : (2147483648 : Nat) ≤ maxLen := by unfold maxLen; omega
  obtain ⟨i0, hi, hz0, hz1, hz2⟩ := info_parts info_u8
  refine wpList_append_own _ hgd s x 70 ho base 5 i0 _ 1 1 Tryz.underlying70 hi hz0 hz1 hz2 rfl (by decide) v _ _ hs (World.ownsRow.alloc hown _) ⟨w.heap.size, 0, none⟩ 1 1 [.int .u8 (c.toNat : Int)] hx rfl ?c1 ?c2 ?c3 ?c4 ?c5 ?_
  case c1 =>
    intro j u hj
    match j, hj with
    | 0, hj => simp at hj; subst hj; simp [Addr.add]
  case c2 => intro u hu; simp at hu; subst hu; rfl
  case c3 => omega
  case c4 => omega
  case c5 => simp; omega
  intro v' w' hown' hgrow _
  have hb : Below base w w' := ((Below.refl _ _).alloc hbase _).grown hgrow (by simp; omega) (fun k hk => (World.ownsRow.lt hown k hk).1)
  refine h v' w' ?_ hb
  unfold OwnB
  simpa [u8s] using hown'

def escB (all : Bool) (c : UInt8) : Bool := all || c == 34 || c == 92 || c == 9
def quoBody (all : Bool) (l : List UInt8) : List UInt8 := l.flatMap fun c => if escB all c then [92, c] else [c]
/-- A local part between quotes. -/
def quoL (all : Bool) (l : List UInt8) : List UInt8 := 34 :: (quoBody all l ++ [34])
theorem quoBody_length (all : Bool) : ∀ l : List UInt8, (quoBody all l).length ≤ 2 * l.length
  | [] => by simp [quoBody]
  | c :: r => by
    have := quoBody_length all r
    unfold quoBody at this ⊢
    rw [List.flatMap_cons, List.length_append, List.length_cons]
    split <;> simp only [List.length_cons, List.length_nil] <;> omega
theorem quoBody_snoc (all : Bool) (l : List UInt8) (c : UInt8) : quoBody all (l ++ [c]) = quoBody all l ++ (if escB all c then [92, c] else [c]) := by
  unfold quoBody
  rw [List.flatMap_append]
  simp
end Go.Proofs.YtdinnpjplgkffaaGreatDoor
