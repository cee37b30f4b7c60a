/-
  Laws of the walk: chains of tests on one byte ('c == 33 || lo <= c && c <= hi || ..'), taken a test at a time without parting. No condition.
-/
import Derived.Test.YtdinnpjplgkffaaGreatDoorBase
import Derived.BigFrame
namespace Go.Proofs.YtdinnpjplgkffaaGreatDoor
open Go.RowKit

theorem slot_at (a : Act) (d : Nat) (v : Value) (h : d < a.tmps.size) : (a.put (some d) v).tmps[d]? = some v := by
  simp [Act.put, h]
theorem slot_ne (a : Act) (d e : Nat) (v : Value) (h : d ≠ e) : (a.put (some d) v).tmps[e]? = a.tmps[e]? := by
  simp only [Act.put]
  exact Array.getElem?_setIfInBounds_ne h
theorem slot_size (a : Act) (d : Nat) (v : Value) : (a.put (some d) v).tmps.size = a.tmps.size := by
  simp [Act.put]
theorem eval_slot {a : Act} {d : Nat} {v : Value} (h : a.tmps[d]? = some v) : a.eval (.tmp d) = v := by
  simp only [Act.eval, Array.getD_eq_getD_getElem?, h, Option.getD_some]
section
variable {ops : Array Oper} {rest : List Oper} {Q : Exit → Act → World → Prop} {a : Act} {w : World}
theorem wanted_is {o : Oper} {k d : Nat} {b g : Bool} (hg : o.guard = some (k, b)) (hd : (ops[k]?).bind (·.dst) = some d) (hv : a.tmps[d]? = some (.bool g)) : Region.wanted o (yielded ops a.tmps) = (g == b) := by
  simp only [Region.wanted, hg, yielded, hd, Option.bind_some, hv]
  cases g <;> cases b <;> rfl
theorem wanted_undef {o : Oper} {k d : Nat} {b : Bool} (hg : o.guard = some (k, b)) (hd : (ops[k]?).bind (·.dst) = some d) (hv : a.tmps[d]? = some undef) : Region.wanted o (yielded ops a.tmps) = false := by
  simp only [Region.wanted, hg, yielded, hd, Option.bind_some, hv]
  rfl
theorem wp_pick_bool {o : Oper} {K : Act → World → Prop} (x y z : Operand) (b : Bool) (v : Value) (h : o.op = .pick x y z) (hx : a.eval x = .bool b) (hv : (if b = true then a.eval y else a.eval z) = v) (hk : K (a.put o.dst v) w) : o.wp Tryz.prog a w K Q := by
  subst hv
  unfold Oper.wp execOp
  rw [h]
  simp only [hx]
  exact hk
theorem wp_eql_u8 {o : Oper} {K : Act → World → Prop} (x y : Operand) (m n : Int) (h : o.op = .binOp .eql 5 x y 5) (hx : a.eval x = .int .u8 m) (hy : a.eval y = .int .u8 n) (hk : K (a.put o.dst (.bool (m == n))) w) : o.wp Tryz.prog a w K Q := by
  unfold Oper.wp execOp
  rw [h]
  simp only [hx, hy]
  go_simp
  exact hk
theorem wp_leq_u8 {o : Oper} {K : Act → World → Prop} (x y : Operand) (m n : Int) (h : o.op = .binOp .leq 5 x y 5) (hx : a.eval x = .int .u8 m) (hy : a.eval y = .int .u8 n) (hk : K (a.put o.dst (.bool (decide (m ≤ n)))) w) : o.wp Tryz.prog a w K Q := by
  unfold Oper.wp execOp
  rw [h]
  simp only [hx, hy]
  go_simp
  exact hk
/-- '.. || c == n'. -/
theorem wpList_orEq (d tA tc k : Nat) (b : Bool) (c n : Int) (t1 t2 t3 t4 : TypeId) (p1 p2 p3 p4 : String) (f1 f2 f3 f4 : Array Edge)
    (hk : (ops[k]?).bind (·.dst) = some d) (hA : a.tmps[tA]? = some (.bool b)) (hc : a.tmps[tc]? = some (.int .u8 c)) (hd : tc < d) (hs : d + 3 < a.tmps.size)
    (h : ∀ u2 u3, wpList Tryz.prog ops Q rest ((((a.put (some d) (.bool b)).put (some (d + 1)) u2).put (some (d + 2)) u3).put (some (d + 3)) (.bool (b || c == n))) w) :
    wpList Tryz.prog ops Q (⟨some d, .move (.tmp tA), t1, p1, f1, none⟩ :: ⟨some (d + 1), .move (.tmp tc), t2, p2, f2, some (k, false)⟩ :: ⟨some (d + 2), .binOp .eql 5 (.tmp (d + 1)) (.const (.int .u8 n)) 5, t3, p3, f3, some (k, false)⟩ :: ⟨some (d + 3), .pick (.tmp d) (.const (.bool true)) (.tmp (d + 2)), t4, p4, f4, none⟩ :: rest) a w := by
  refine wpList_plain rfl fun K hK => BigFrame.wp_move _ rfl (hK _ _ ?_)
  rw [eval_slot hA]
  have g1 := slot_at a d (.bool b) (by omega)
  have s1 := slot_size a d (.bool b)
  have gc : (a.put (some d) (.bool b)).tmps[tc]? = some (.int .u8 c) := (slot_ne _ _ _ _ (by omega)).trans hc
  clear hA hc
  dsimp only
  generalize hb1 : a.put (some d) (.bool b) = b1 at *
  cases b
  · refine BigFrame.wpList_want ((wanted_is (g := false) rfl hk g1).trans rfl) fun K hK => BigFrame.wp_move _ rfl (hK _ _ ?_)
    rw [eval_slot gc]
    have g2 := slot_at b1 (d + 1) (.int .u8 c) (by omega)
    have g12 : (b1.put (some (d + 1)) (.int .u8 c)).tmps[d]? = some (.bool false) := (slot_ne _ _ _ _ (by omega)).trans g1
    have s2 := slot_size b1 (d + 1) (.int .u8 c)
    have h2 := h (.int .u8 c)
    dsimp only
    generalize b1.put (some (d + 1)) (.int .u8 c) = b2 at *
    refine BigFrame.wpList_want ((wanted_is (g := false) rfl hk g12).trans rfl) fun K hK => wp_eql_u8 _ _ c n rfl (eval_slot g2) rfl (hK _ _ ?_)
    have g3 := slot_at b2 (d + 2) (.bool (c == n)) (by omega)
    have g13 : (b2.put (some (d + 2)) (.bool (c == n))).tmps[d]? = some (.bool false) := (slot_ne _ _ _ _ (by omega)).trans g12
    exact wpList_plain rfl fun K hK => wp_pick_bool _ _ _ false (.bool (c == n)) rfl (eval_slot g13) (eval_slot g3) (hK _ _ (h2 _))
  · refine wpList_skip ((wanted_is (g := true) rfl hk g1).trans rfl) ?_
    have g12 : (b1.put (some (d + 1)) undef).tmps[d]? = some (.bool true) := (slot_ne _ _ _ _ (by omega)).trans g1
    refine wpList_skip ((wanted_is (g := true) rfl hk g12).trans rfl) ?_
    have g13 : ((b1.put (some (d + 1)) undef).put (some (d + 2)) undef).tmps[d]? = some (.bool true) := (slot_ne _ _ _ _ (by omega)).trans g12
    exact wpList_plain rfl fun K hK => wp_pick_bool _ _ _ true (.bool true) rfl (eval_slot g13) rfl (hK _ _ (h undef undef))
/-- 'lo <= c && c <= hi'. -/
theorem wpList_range (d tc k2 : Nat) (c lo hi : Int) (t2 t3 t4 t5 t6 t7 : TypeId) (p2 p3 p4 p5 p6 p7 : String) (f2 f3 f4 f5 f6 f7 : Array Edge)
    (hk2 : (ops[k2]?).bind (·.dst) = some (d + 2)) (hc : a.tmps[tc]? = some (.int .u8 c)) (hd : tc < d) (hs : d + 5 < a.tmps.size)
    (h : ∀ u2 u3 u4 u5 u6, wpList Tryz.prog ops Q rest ((((((a.put (some d) u2).put (some (d + 1)) u3).put (some (d + 2)) u4).put (some (d + 3)) u5).put (some (d + 4)) u6).put (some (d + 5)) (.bool (decide (lo ≤ c) && decide (c ≤ hi)))) w) :
    wpList Tryz.prog ops Q (⟨some d, .move (.tmp tc), t2, p2, f2, none⟩ :: ⟨some (d + 1), .binOp .leq 5 (.const (.int .u8 lo)) (.tmp d) 5, t3, p3, f3, none⟩ :: ⟨some (d + 2), .move (.tmp (d + 1)), t4, p4, f4, none⟩ :: ⟨some (d + 3), .move (.tmp tc), t5, p5, f5, some (k2, true)⟩ :: ⟨some (d + 4), .binOp .leq 5 (.tmp (d + 3)) (.const (.int .u8 hi)) 5, t6, p6, f6, some (k2, true)⟩ :: ⟨some (d + 5), .pick (.tmp (d + 2)) (.tmp (d + 4)) (.const (.bool false)), t7, p7, f7, none⟩ :: rest) a w := by
  refine wpList_plain rfl fun K hK => BigFrame.wp_move _ rfl (hK _ _ ?_)
  rw [eval_slot hc]
  have g1 := slot_at a d (.int .u8 c) (by omega)
  have s1 := slot_size a d (.int .u8 c)
  have gc1 : (a.put (some d) (.int .u8 c)).tmps[tc]? = some (.int .u8 c) := (slot_ne _ _ _ _ (by omega)).trans hc
  have h1 := h (.int .u8 c)
  clear hc
  dsimp only
  generalize a.put (some d) (.int .u8 c) = b1 at *
  refine wpList_plain rfl fun K hK => wp_leq_u8 _ _ lo c rfl rfl (eval_slot g1) (hK _ _ ?_)
  generalize decide (lo ≤ c) = x at *
  have g2 := slot_at b1 (d + 1) (.bool x) (by omega)
  have s2 := slot_size b1 (d + 1) (.bool x)
  have gc2 : (b1.put (some (d + 1)) (.bool x)).tmps[tc]? = some (.int .u8 c) := (slot_ne _ _ _ _ (by omega)).trans gc1
  have h2 := h1 (.bool x)
  dsimp only
  generalize b1.put (some (d + 1)) (.bool x) = b2 at *
  refine wpList_plain rfl fun K hK => BigFrame.wp_move _ rfl (hK _ _ ?_)
  rw [eval_slot g2]
  have g3 := slot_at b2 (d + 2) (.bool x) (by omega)
  have s3 := slot_size b2 (d + 2) (.bool x)
  have gc3 : (b2.put (some (d + 2)) (.bool x)).tmps[tc]? = some (.int .u8 c) := (slot_ne _ _ _ _ (by omega)).trans gc2
  have h3 := h2 (.bool x)
  dsimp only
  generalize b2.put (some (d + 2)) (.bool x) = b3 at *
  cases x
  · refine wpList_skip ((wanted_is (g := false) rfl hk2 g3).trans rfl) ?_
    have g4 : (b3.put (some (d + 3)) undef).tmps[d + 2]? = some (.bool false) := (slot_ne _ _ _ _ (by omega)).trans g3
    refine wpList_skip ((wanted_is (g := false) rfl hk2 g4).trans rfl) ?_
    have g5 : ((b3.put (some (d + 3)) undef).put (some (d + 4)) undef).tmps[d + 2]? = some (.bool false) := (slot_ne _ _ _ _ (by omega)).trans g4
    exact wpList_plain rfl fun K hK => wp_pick_bool _ _ _ false (.bool false) rfl (eval_slot g5) rfl (hK _ _ (h3 undef undef))
  · refine BigFrame.wpList_want ((wanted_is (g := true) rfl hk2 g3).trans rfl) fun K hK => BigFrame.wp_move _ rfl (hK _ _ ?_)
    rw [eval_slot gc3]
    have g4 : (b3.put (some (d + 3)) (.int .u8 c)).tmps[d + 2]? = some (.bool true) := (slot_ne _ _ _ _ (by omega)).trans g3
    have g44 := slot_at b3 (d + 3) (.int .u8 c) (by omega)
    have s4 := slot_size b3 (d + 3) (.int .u8 c)
    have h4 := h3 (.int .u8 c)
    dsimp only
    generalize b3.put (some (d + 3)) (.int .u8 c) = b4 at *
    refine BigFrame.wpList_want ((wanted_is (g := true) rfl hk2 g4).trans rfl) fun K hK => wp_leq_u8 _ _ c hi rfl (eval_slot g44) rfl (hK _ _ ?_)
    have g5 := slot_at b4 (d + 4) (.bool (decide (c ≤ hi))) (by omega)
    have g53 : (b4.put (some (d + 4)) (.bool (decide (c ≤ hi)))).tmps[d + 2]? = some (.bool true) := (slot_ne _ _ _ _ (by omega)).trans g4
    exact wpList_plain rfl fun K hK => wp_pick_bool _ _ _ true (.bool (decide (c ≤ hi))) rfl (eval_slot g53) (eval_slot g5) (hK _ _ (h4 _))
/-- '.. || lo <= c && c <= hi'. -/
theorem wpList_orRange (d tA tc k k2 : Nat) (b : Bool) (c lo hi : Int) (t1 t2 t3 t4 t5 t6 t7 t8 : TypeId) (p1 p2 p3 p4 p5 p6 p7 p8 : String) (f1 f2 f3 f4 f5 f6 f7 f8 : Array Edge)
    (hk : (ops[k]?).bind (·.dst) = some d) (hk2 : (ops[k2]?).bind (·.dst) = some (d + 3)) (hA : a.tmps[tA]? = some (.bool b)) (hc : a.tmps[tc]? = some (.int .u8 c)) (hd : tc < d) (hs : d + 7 < a.tmps.size)
    (h : ∀ u2 u3 u4 u5 u6 u7, wpList Tryz.prog ops Q rest ((((((((a.put (some d) (.bool b)).put (some (d + 1)) u2).put (some (d + 2)) u3).put (some (d + 3)) u4).put (some (d + 4)) u5).put (some (d + 5)) u6).put (some (d + 6)) u7).put (some (d + 7)) (.bool (b || (decide (lo ≤ c) && decide (c ≤ hi))))) w) :
    wpList Tryz.prog ops Q (⟨some d, .move (.tmp tA), t1, p1, f1, none⟩ :: ⟨some (d + 1), .move (.tmp tc), t2, p2, f2, some (k, false)⟩ :: ⟨some (d + 2), .binOp .leq 5 (.const (.int .u8 lo)) (.tmp (d + 1)) 5, t3, p3, f3, some (k, false)⟩ :: ⟨some (d + 3), .move (.tmp (d + 2)), t4, p4, f4, some (k, false)⟩ :: ⟨some (d + 4), .move (.tmp tc), t5, p5, f5, some (k2, true)⟩ :: ⟨some (d + 5), .binOp .leq 5 (.tmp (d + 4)) (.const (.int .u8 hi)) 5, t6, p6, f6, some (k2, true)⟩ :: ⟨some (d + 6), .pick (.tmp (d + 3)) (.tmp (d + 5)) (.const (.bool false)), t7, p7, f7, some (k, false)⟩ :: ⟨some (d + 7), .pick (.tmp d) (.const (.bool true)) (.tmp (d + 6)), t8, p8, f8, none⟩ :: rest) a w := by
  refine wpList_plain rfl fun K hK => BigFrame.wp_move _ rfl (hK _ _ ?_)
  rw [eval_slot hA]
  have g1 := slot_at a d (.bool b) (by omega)
  have s1 := slot_size a d (.bool b)
  have gc1 : (a.put (some d) (.bool b)).tmps[tc]? = some (.int .u8 c) := (slot_ne _ _ _ _ (by omega)).trans hc
  clear hA hc
  dsimp only
  generalize a.put (some d) (.bool b) = b1 at *
  cases b
  · refine BigFrame.wpList_want ((wanted_is (g := false) rfl hk g1).trans rfl) fun K hK => BigFrame.wp_move _ rfl (hK _ _ ?_)
    rw [eval_slot gc1]
    have g2 := slot_at b1 (d + 1) (.int .u8 c) (by omega)
    have g12 : (b1.put (some (d + 1)) (.int .u8 c)).tmps[d]? = some (.bool false) := (slot_ne _ _ _ _ (by omega)).trans g1
    have gc2 : (b1.put (some (d + 1)) (.int .u8 c)).tmps[tc]? = some (.int .u8 c) := (slot_ne _ _ _ _ (by omega)).trans gc1
    have s2 := slot_size b1 (d + 1) (.int .u8 c)
    have h2 := h (.int .u8 c)
    dsimp only
    generalize b1.put (some (d + 1)) (.int .u8 c) = b2 at *
    refine BigFrame.wpList_want ((wanted_is (g := false) rfl hk g12).trans rfl) fun K hK => wp_leq_u8 _ _ lo c rfl rfl (eval_slot g2) (hK _ _ ?_)
    generalize decide (lo ≤ c) = x at *
    have g3 := slot_at b2 (d + 2) (.bool x) (by omega)
    have g13 : (b2.put (some (d + 2)) (.bool x)).tmps[d]? = some (.bool false) := (slot_ne _ _ _ _ (by omega)).trans g12
    have gc3 : (b2.put (some (d + 2)) (.bool x)).tmps[tc]? = some (.int .u8 c) := (slot_ne _ _ _ _ (by omega)).trans gc2
    have s3 := slot_size b2 (d + 2) (.bool x)
    have h3 := h2 (.bool x)
    dsimp only
    generalize b2.put (some (d + 2)) (.bool x) = b3 at *
    refine BigFrame.wpList_want ((wanted_is (g := false) rfl hk g13).trans rfl) fun K hK => BigFrame.wp_move _ rfl (hK _ _ ?_)
    rw [eval_slot g3]
    have g4 := slot_at b3 (d + 3) (.bool x) (by omega)
    have g14 : (b3.put (some (d + 3)) (.bool x)).tmps[d]? = some (.bool false) := (slot_ne _ _ _ _ (by omega)).trans g13
    have gc4 : (b3.put (some (d + 3)) (.bool x)).tmps[tc]? = some (.int .u8 c) := (slot_ne _ _ _ _ (by omega)).trans gc3
    have s4 := slot_size b3 (d + 3) (.bool x)
    have h4 := h3 (.bool x)
    dsimp only
    generalize b3.put (some (d + 3)) (.bool x) = b4 at *
    cases x
    · refine wpList_skip ((wanted_is (g := false) rfl hk2 g4).trans rfl) ?_
      have g5 : (b4.put (some (d + 4)) undef).tmps[d + 3]? = some (.bool false) := (slot_ne _ _ _ _ (by omega)).trans g4
      have g15 : (b4.put (some (d + 4)) undef).tmps[d]? = some (.bool false) := (slot_ne _ _ _ _ (by omega)).trans g14
      have s5 := slot_size b4 (d + 4) undef
      have h5 := h4 undef
      dsimp only
      generalize b4.put (some (d + 4)) undef = b5 at *
      refine wpList_skip ((wanted_is (g := false) rfl hk2 g5).trans rfl) ?_
      have g6 : (b5.put (some (d + 5)) undef).tmps[d + 3]? = some (.bool false) := (slot_ne _ _ _ _ (by omega)).trans g5
      have g16 : (b5.put (some (d + 5)) undef).tmps[d]? = some (.bool false) := (slot_ne _ _ _ _ (by omega)).trans g15
      have s6 := slot_size b5 (d + 5) undef
      have h6 := h5 undef
      dsimp only
      generalize b5.put (some (d + 5)) undef = b6 at *
      refine BigFrame.wpList_want ((wanted_is (g := false) rfl hk g16).trans rfl) fun K hK => wp_pick_bool _ _ _ false (.bool false) rfl (eval_slot g6) rfl (hK _ _ ?_)
      have g7 := slot_at b6 (d + 6) (.bool false) (by omega)
      have g17 : (b6.put (some (d + 6)) (.bool false)).tmps[d]? = some (.bool false) := (slot_ne _ _ _ _ (by omega)).trans g16
      exact wpList_plain rfl fun K hK => wp_pick_bool _ _ _ false (.bool false) rfl (eval_slot g17) (eval_slot g7) (hK _ _ (h6 _))
    · refine BigFrame.wpList_want ((wanted_is (g := true) rfl hk2 g4).trans rfl) fun K hK => BigFrame.wp_move _ rfl (hK _ _ ?_)
      rw [eval_slot gc4]
      have g5 : (b4.put (some (d + 4)) (.int .u8 c)).tmps[d + 3]? = some (.bool true) := (slot_ne _ _ _ _ (by omega)).trans g4
      have g15 : (b4.put (some (d + 4)) (.int .u8 c)).tmps[d]? = some (.bool false) := (slot_ne _ _ _ _ (by omega)).trans g14
      have g55 := slot_at b4 (d + 4) (.int .u8 c) (by omega)
      have s5 := slot_size b4 (d + 4) (.int .u8 c)
      have h5 := h4 (.int .u8 c)
      dsimp only
      generalize b4.put (some (d + 4)) (.int .u8 c) = b5 at *
      refine BigFrame.wpList_want ((wanted_is (g := true) rfl hk2 g5).trans rfl) fun K hK => wp_leq_u8 _ _ c hi rfl (eval_slot g55) rfl (hK _ _ ?_)
      generalize decide (c ≤ hi) = y at *
      have g6 : (b5.put (some (d + 5)) (.bool y)).tmps[d + 3]? = some (.bool true) := (slot_ne _ _ _ _ (by omega)).trans g5
      have g16 : (b5.put (some (d + 5)) (.bool y)).tmps[d]? = some (.bool false) := (slot_ne _ _ _ _ (by omega)).trans g15
      have g66 := slot_at b5 (d + 5) (.bool y) (by omega)
      have s6 := slot_size b5 (d + 5) (.bool y)
      have h6 := h5 (.bool y)
      dsimp only
      generalize b5.put (some (d + 5)) (.bool y) = b6 at *
      refine BigFrame.wpList_want ((wanted_is (g := false) rfl hk g16).trans rfl) fun K hK => wp_pick_bool _ _ _ true (.bool y) rfl (eval_slot g6) (eval_slot g66) (hK _ _ ?_)
      have g7 := slot_at b6 (d + 6) (.bool y) (by omega)
      have g17 : (b6.put (some (d + 6)) (.bool y)).tmps[d]? = some (.bool false) := (slot_ne _ _ _ _ (by omega)).trans g16
      exact wpList_plain rfl fun K hK => wp_pick_bool _ _ _ false (.bool y) rfl (eval_slot g17) (eval_slot g7) (hK _ _ (h6 _))
  · refine wpList_skip ((wanted_is (g := true) rfl hk g1).trans rfl) ?_
    have g2 : (b1.put (some (d + 1)) undef).tmps[d]? = some (.bool true) := (slot_ne _ _ _ _ (by omega)).trans g1
    have s2 := slot_size b1 (d + 1) undef
    have h2 := h undef
    dsimp only
    generalize b1.put (some (d + 1)) undef = b2 at *
    refine wpList_skip ((wanted_is (g := true) rfl hk g2).trans rfl) ?_
    have g3 : (b2.put (some (d + 2)) undef).tmps[d]? = some (.bool true) := (slot_ne _ _ _ _ (by omega)).trans g2
    have s3 := slot_size b2 (d + 2) undef
    have h3 := h2 undef
    dsimp only
    generalize b2.put (some (d + 2)) undef = b3 at *
    refine wpList_skip ((wanted_is (g := true) rfl hk g3).trans rfl) ?_
    have g4 : (b3.put (some (d + 3)) undef).tmps[d]? = some (.bool true) := (slot_ne _ _ _ _ (by omega)).trans g3
    have g44 := slot_at b3 (d + 3) undef (by omega)
    have s4 := slot_size b3 (d + 3) undef
    have h4 := h3 undef
    dsimp only
    generalize b3.put (some (d + 3)) undef = b4 at *
    refine wpList_skip (wanted_undef rfl hk2 g44) ?_
    have g5 : (b4.put (some (d + 4)) undef).tmps[d]? = some (.bool true) := (slot_ne _ _ _ _ (by omega)).trans g4
    have g54 : (b4.put (some (d + 4)) undef).tmps[d + 3]? = some undef := (slot_ne _ _ _ _ (by omega)).trans g44
    have s5 := slot_size b4 (d + 4) undef
    have h5 := h4 undef
    dsimp only
    generalize b4.put (some (d + 4)) undef = b5 at *
    refine wpList_skip (wanted_undef rfl hk2 g54) ?_
    have g6 : (b5.put (some (d + 5)) undef).tmps[d]? = some (.bool true) := (slot_ne _ _ _ _ (by omega)).trans g5
    have s6 := slot_size b5 (d + 5) undef
    have h6 := h5 undef
    dsimp only
    generalize b5.put (some (d + 5)) undef = b6 at *
    refine wpList_skip ((wanted_is (g := true) rfl hk g6).trans rfl) ?_
    have g7 : (b6.put (some (d + 6)) undef).tmps[d]? = some (.bool true) := (slot_ne _ _ _ _ (by omega)).trans g6
    exact wpList_plain rfl fun K hK => wp_pick_bool _ _ _ true (.bool true) rfl (eval_slot g7) rfl (hK _ _ (h6 _))
end
end Go.Proofs.YtdinnpjplgkffaaGreatDoor
