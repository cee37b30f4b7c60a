/-
  A byte appended to a row of the call's own; walk: spec.Quoted. Texts of at most 2^29 bytes.
-/
import Derived.Test.YtdnbbodolpgphaaM3
namespace Go.Proofs.Ytdnbbodolpgphaa
open Go.RowKit

theorem u8s_length (l : List UInt8) : (u8s l).length = l.length := by simp [u8s]
/-- A row of bytes of the call's own. -/
def OwnB (w : World) (base : Nat) (v : Value) (l : List UInt8) : Prop := w.ownsRow base 5 1 v l.length (u8s l)
/-- append(row, c): the row of one byte that is built ahead of it lies in the world's last block. -/
theorem wpList_push_byte {ops : Array Oper} {rest : List Oper} {o : Oper} {a : Act} {w : World} {Q : Exit → Act → World → Prop} (hgd : o.guard = none) (s x : Operand)
    (ho : o.op = .call { callee := .builtin .append, args := #[s, x], argTypes := #[33, 33] })
    (base : Nat) (v : Value) (l : List UInt8) (c : UInt8) (m : Int) (hm : m = (c.toNat : Int)) (hs : a.eval s = v) (hown : OwnB w base v l) (hx : a.eval x = .slice (some ⟨w.heap.size, 0, none⟩) 1 1)
    (hl : l.length ≤ 2147483647) (hbase : base ≤ w.heap.size)
    (h : ∀ v' w', OwnB w' base v' (l ++ [c]) → Below base w w' → wpList Try.prog ops Q rest (a.put o.dst v') w') : wpList Try.prog ops Q (o :: rest) a (w.alloc (.cells #[.int .u8 m] 5)) := by
  subst hm
  have hmax : (2147483648 : Nat) ≤ maxLen := by unfold maxLen; omega
  obtain ⟨i0, hi, hz0, hz1, hz2⟩ := info_parts info_u8
  refine wpList_append_own _ hgd s x 33 ho base 5 i0 _ 1 1 Try.underlying33 hi hz0 hz1 hz2 rfl (by decide) v _ _ hs (World.ownsRow.alloc hown _) ⟨w.heap.size, 0, none⟩ 1 1 [.int .u8 (c.toNat : Int)] hx rfl ?c1 ?c2 ?c3 ?c4 ?c5 ?_
  case c1 =>
    intro j u hj
    match j, hj with
    | 0, hj => simp at hj; subst hj; simp [Addr.add]
  case c2 => intro u hu; simp at hu; subst hu; rfl
  case c3 => omega
  case c4 => omega
  case c5 => simp; omega
  intro v' w' hown' hgrow _
  have hb : Below base w w' := ((Below.refl _ _).alloc hbase _).grown hgrow (by simp; omega) (fun k hk => (World.ownsRow.lt hown k hk).1)
  refine h v' w' ?_ hb
  unfold OwnB
  simpa [u8s] using hown'

def escB (all : Bool) (c : UInt8) : Bool := all || c == 34 || c == 92 || c == 9
def quoBody (all : Bool) (l : List UInt8) : List UInt8 := l.flatMap fun c => if escB all c then [92, c] else [c]
/-- A local part between quotes. -/
def quoL (all : Bool) (l : List UInt8) : List UInt8 := 34 :: (quoBody all l ++ [34])
theorem quoBody_length (all : Bool) : ∀ l : List UInt8, (quoBody all l).length ≤ 2 * l.length
  | [] => by simp [quoBody]
  | c :: r => by
    have := quoBody_length all r
    unfold quoBody at this ⊢
    rw [List.flatMap_cons, List.length_append, List.length_cons]
    split <;> simp only [List.length_cons, List.length_nil] <;> omega
theorem quoBody_snoc (all : Bool) (l : List UInt8) (c : UInt8) : quoBody all (l ++ [c]) = quoBody all l ++ (if escB all c then [92, c] else [c]) := by
  unfold quoBody
  rw [List.flatMap_append]
  simp
set_option maxHeartbeats 1000000 in
theorem quoted_any (s : ByteArray) (all : Bool) (hs : s.size ≤ 536870912) (w : World) :
    Calls Try.prog 46 #[.string s, .bool all] w (Ret (.string (ofBytes (quoL all (bytes s)))) w) := by
  have hlen := Lib.hid (bytes_length s)
  have hmax : (2147483648 : Nat) ≤ maxLen := by unfold maxLen; omega
  have HO0 := Lib.hid (show OwnB (w.alloc (.cells #[.int .u8 34] 5)) w.heap.size (.slice (some ⟨w.heap.size, 0, none⟩) 1 1) (34 :: quoBody all ((bytes s).take 0)) from
    ⟨rfl, .inr ⟨w.heap.size, 1, _, rfl, Nat.le_refl _, heap_alloc_new w _, Nat.le_refl _, by omega, rfl, rfl⟩⟩)
  go_enter Try.func46, Try.ntmps46
  go_wp2
  go_loopg [5, 6] s.size (fun kx v i wr => ∃ k : Nat, k ≤ s.size ∧ s.size - k ≤ kx ∧ i = .int .i64 k ∧
    Aside (OwnB wr w.heap.size v (34 :: quoBody all ((bytes s).take k))) ∧ Below w.heap.size w wr)
  case atStart => exact ⟨0, by omega, by omega, rfl, HO0.out, Below.one _ _⟩
  case round =>
    clear HO0
    obtain ⟨k, hk, hg, rfl, HO, hb⟩ := hrel
    have hsz := hb.size
    by_cases hlt : k < s.size
    · have hkl : k < (bytes s).length := by rw [hlen.out]; exact hlt
      have hcl := quoBody_length all ((bytes s).take k)
      rw [List.length_take] at hcl
      have hl1 : (34 :: quoBody all ((bytes s).take k)).length ≤ 2000000000 := by rw [List.length_cons]; omega
      have hE : (bytes s).take (k + 1) = (bytes s).take k ++ [s[k]'hlt] := by
        rw [List.take_succ_eq_append_getElem hkl, bytes_ix s k hlt hkl]
      have E := Lib.hid (show 34 :: quoBody all ((bytes s).take (k + 1)) = (34 :: quoBody all ((bytes s).take k)) ++ (if escB all (s[k]'hlt) then [92, s[k]'hlt] else [s[k]'hlt]) by
        rw [hE, quoBody_snoc]; rfl)
      clear hE hcl hkl
      generalize 34 :: quoBody all ((bytes s).take k) = row at *
      cases hesc : escB all (s[k]'hlt)
      · rw [hesc] at E
        have hc : all = false ∧ (((s[k]'hlt).toNat : Int) == 34) = false ∧ (((s[k]'hlt).toNat : Int) == 92) = false ∧ (((s[k]'hlt).toNat : Int) == 9) = false := by
          rw [beq_c (c := s[k]'hlt) (d := 34) (n := 34) rfl, beq_c (c := s[k]'hlt) (d := 92) (n := 92) rfl, beq_c (c := s[k]'hlt) (d := 9) (n := 9) rfl]
          unfold escB at hesc
          cases all <;> simp_all
        clear hesc
        obtain ⟨rfl, h1, h2, h3⟩ := hc
        go_wp2_with (at_builtin; refine wpList_push_byte rfl (.tmp 36) (.tmp 40) rfl w.heap.size _ row (s[k]'hlt) _ rfl rfl HO.out rfl (by omega) hsz ?_)
        intro v1 w1 hown1 hb1
        have HO1 := Lib.hid hown1
        clear hown1 HO
        go_wp2
        go_roundg (s.size - (k + 1))
        case measure => omega
        case rel => exact ⟨k + 1, by omega, by omega, by go_num, by rw [E.out, if_neg (by decide)]; exact HO1.out, hb.trans hb1⟩
      · rw [hesc] at E
        have hc : all = true ∨ (all = false ∧ (((s[k]'hlt).toNat : Int) == 34) = true) ∨ (all = false ∧ (((s[k]'hlt).toNat : Int) == 34) = false ∧ (((s[k]'hlt).toNat : Int) == 92) = true) ∨ (all = false ∧ (((s[k]'hlt).toNat : Int) == 34) = false ∧ (((s[k]'hlt).toNat : Int) == 92) = false ∧ (((s[k]'hlt).toNat : Int) == 9) = true) := by
          rw [beq_c (c := s[k]'hlt) (d := 34) (n := 34) rfl, beq_c (c := s[k]'hlt) (d := 92) (n := 92) rfl, beq_c (c := s[k]'hlt) (d := 9) (n := 9) rfl]
          unfold escB at hesc
          cases e1 : (s[k]'hlt) == 34 <;> cases e2 : (s[k]'hlt) == 92 <;> cases e3 : (s[k]'hlt) == 9 <;> cases all <;> simp_all
        clear hesc
        rcases hc with rfl | ⟨rfl, h1⟩ | ⟨rfl, h1, h2⟩ | ⟨rfl, h1, h2, h3⟩
        all_goals
          go_wp2_with (at_builtin; refine wpList_push_byte rfl (.tmp 33) (.tmp 34) rfl w.heap.size _ row 92 _ rfl rfl HO.out rfl (by omega) hsz ?_)
          intro v1 w1 hown1 hb1
          have HO1 := Lib.hid hown1
          have hsz1 : w.heap.size ≤ w1.heap.size := Nat.le_trans hsz hb1.size
          have hl2 : (row ++ [92]).length ≤ 2000000001 := by rw [List.length_append]; simp; omega
          clear hown1 HO
          go_wp2_with (at_builtin; refine wpList_push_byte rfl (.tmp 36) (.tmp 40) rfl w.heap.size _ (row ++ [92]) (s[k]'hlt) _ rfl rfl HO1.out rfl (by omega) hsz1 ?_)
          intro v2 w2 hown2 hb2
          have HO2 := Lib.hid hown2
          clear hown2 HO1
          go_wp2
          go_roundg (s.size - (k + 1))
          case measure => omega
          case rel => exact ⟨k + 1, by omega, by omega, by go_num, by rw [E.out]; show OwnB _ _ _ _; simpa using HO2.out, (hb.trans hb1).trans hb2⟩
    · obtain rfl : k = s.size := by omega
      have hT : (bytes s).take s.size = bytes s := List.take_of_length_le (by rw [hlen.out]; omega)
      rw [hT] at HO
      have hcl := quoBody_length all (bytes s)
      rw [hlen.out] at hcl
      have hl1 : (34 :: quoBody all (bytes s)).length ≤ 2000000000 := by rw [List.length_cons]; omega
      have E := Lib.hid (show quoL all (bytes s) = (34 :: quoBody all (bytes s)) ++ [34] from rfl)
      clear hT hcl
      generalize 34 :: quoBody all (bytes s) = row at *
      generalize quoL all (bytes s) = out at *
      go_wp2_with (at_builtin; refine wpList_push_byte rfl (.tmp 42) (.tmp 43) rfl w.heap.size _ row 34 _ rfl rfl HO.out rfl (by omega) hsz ?_)
      intro v1 w1 hown1 hb1
      rw [← E.out] at hown1
      unfold OwnB at hown1
      obtain ⟨A, cap, rfl, hnc, hcap, hrd, hll⟩ := Rd.own hown1
      have hconv := conv_back w1 A cap out out.length rfl hrd
      have hbb := Lib.hid (hb.trans hb1)
      clear hown1 hrd hll HO
      go_wp2
      go_ret
      exact ⟨rfl, hbb.out⟩
end Go.Proofs.Ytdnbbodolpgphaa
