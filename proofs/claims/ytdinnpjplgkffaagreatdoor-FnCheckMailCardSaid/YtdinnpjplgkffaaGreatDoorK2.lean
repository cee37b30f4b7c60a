/-
  Walks: errors.New, impl.ends, impl.codeOf, laws.answered, spec.Rule. The texts of the two refusals.
-/
import Derived.Test.YtdinnpjplgkffaaGreatDoorK1
namespace Go.Proofs.YtdinnpjplgkffaaGreatDoor
open Go.ChangeShapes Go.WideShapes Go.ChangeAt Go.RowKit

def SameE (v : Value) (w : World) (e : Ending) (w' : World) : Prop := e = .returned v ∧ w = w'
def endsB (s t : ByteArray) : Bool := decide (t.size ≤ s.size) && ((s.extract (s.size - t.size) s.size).toList == t.toList)
set_option maxHeartbeats 1000000 in
theorem ends_any (s t : ByteArray) (hs : s.size ≤ 2147483647) (ht : t.size ≤ 2147483647) (b : Bool) (hb : endsB s t = b) (w : World) :
    Calls Tryz.prog 30 #[.string s, .string t] w (SameE (.bool b) w) := by
  unfold endsB at hb
  by_cases h : t.size ≤ s.size
  · have hsub : IntKind.i64.wrap ((s.size : Int) - (t.size : Int)) = ((s.size - t.size : Nat) : Int) := by rw [show (s.size : Int) - (t.size : Int) = ((s.size - t.size : Nat) : Int) by omega]; exact IntWalk.i64_in _ (by omega)
    have hle : ((t.size : Int) ≤ (s.size : Int)) := by omega
    have h0 : (s.size : Int) - (t.size : Int) ≤ (s.size : Int) := by omega
    have h1 : ((s.size : Int) - (t.size : Int)).toNat = s.size - t.size := by omega
    rw [decide_eq_true h, Bool.true_and] at hb
    have HB := Lib.hid hb
    clear hb
    go_enter Tryz.func30, Tryz.ntmps30
    go_wp2
    go_ret
    exact ⟨ret_bool HB.out, rfl⟩
  · rw [decide_eq_false h, Bool.false_and] at hb
    subst hb
    have h' : s.size < t.size := by omega
    go_enter Tryz.func30, Tryz.ntmps30
    go_wp2
    go_ret
    exact ⟨rfl, rfl⟩
/-- An error with its text. -/
def ErrAt (w : World) (v : Value) (s : ByteArray) : Prop := ∃ g, v = .iface 95 (.pointer (some ⟨g, 0, none⟩)) ∧ w.cell? ⟨g, 0, none⟩ = some (.string s)
def ErrPost (s : ByteArray) (w : World) (e : Ending) (w' : World) : Prop := ∃ v, e = .returned v ∧ ErrAt w' v s ∧ Below w.heap.size w w'
set_option maxHeartbeats 1000000 in
theorem errNew_any (s : ByteArray) (w : World) : Calls Tryz.prog 38 #[.string s] w (ErrPost s w) := by
  have F : Hid (ErrPost s w (.returned (.iface 95 (.pointer (some ⟨w.heap.size, 0, none⟩)))) (w.alloc (.cells #[.string s] 97))) :=
    ⟨_, rfl, ⟨_, rfl, by rw [blk_cell (blk_new w _)]; rfl⟩, Below.one _ _⟩
  go_enter Tryz.func38, Tryz.ntmps38
  go_wp2
  go_ret
  exact F.out
set_option maxHeartbeats 1000000 in
theorem errText_any (g : Nat) (s : ByteArray) (w : World) (hc : w.cell? ⟨g, 0, none⟩ = some (.string s)) : Calls Tryz.prog 119 #[.pointer (some ⟨g, 0, none⟩)] w (SameE (.string s) w) := by
  go_enter Tryz.func119, Tryz.ntmps119
  go_wp2
  go_ret
  exact ⟨rfl, rfl⟩
set_option maxRecDepth 100000 in
theorem method_error (a : Addr) (w : World) (s : String) (hs : s = (String.ofList (List.map Char.ofNat [69, 114, 114, 111, 114]))) : (method 295 95 (.pointer (some a)) s).run Tryz.prog w = .ok (119, .pointer (some a)) w := by
  subst hs
  kernel_rfl
/-- The ends of the two refusals' texts. -/
def notT : ByteArray := { data := #[105, 115, 32, 110, 111, 116, 32, 112, 101, 114, 109, 105, 116, 116, 101, 100, 32, 98, 121, 32, 97, 110, 121, 32, 99, 111, 110, 115, 116, 114, 97, 105, 110, 116] }
def excT : ByteArray := { data := #[105, 115, 32, 101, 120, 99, 108, 117, 100, 101, 100, 32, 98, 121, 32, 97, 32, 99, 111, 110, 115, 116, 114, 97, 105, 110, 116] }
theorem codeOf_nil (w : World) : Calls Tryz.prog 21 #[.nilIface] w (SameE (.int .i64 0) w) := by
  go_enter Tryz.func21, Tryz.ntmps21
  go_wp2
  go_ret
  exact ⟨rfl, rfl⟩
set_option maxRecDepth 100000 in
set_option maxHeartbeats 2000000 in
theorem codeOf_refused (v : Value) (s : ByteArray) (w : World) (h : ErrAt w v s) (hs : s.size ≤ 2147483647) (h1 : endsB s notT = true ∨ (endsB s notT = false ∧ endsB s excT = true)) :
    Calls Tryz.prog 21 #[v] w (SameE (.int .i64 1) w) := by
  obtain ⟨g, rfl, hc⟩ := h
  have HE := Lib.hid (errText_any g s w hc)
  clear hc
  rcases h1 with h1 | ⟨h1, h2⟩
  · have H1 := Lib.hid (ends_any s notT hs (by decide) true h1 w)
    clear h1
    unfold notT at H1
    go_enter Tryz.func21, Tryz.ntmps21
    go_wp2_with fail
    rw [method_error _ _ _ (by kernel_rfl)]
    simp only [Result.andThen]
    rw [enters_of Tryz.func119 (by kernel_rfl) rfl, Oper.upon_enter]
    refine HE.out.mono ?_
    rintro e w1 ⟨rfl, rfl⟩
    go_wp2_with ((with_reducible refine H1.out.mono ?_); rintro e w2 ⟨rfl, rfl⟩)
    go_ret
    exact ⟨rfl, rfl⟩
  · have H1 := Lib.hid (ends_any s notT hs (by decide) false h1 w)
    have H2 := Lib.hid (ends_any s excT hs (by decide) true h2 w)
    clear h1 h2
    unfold notT at H1
    unfold excT at H2
    go_enter Tryz.func21, Tryz.ntmps21
    go_wp2_with fail
    rw [method_error _ _ _ (by kernel_rfl)]
    simp only [Result.andThen]
    rw [enters_of Tryz.func119 (by kernel_rfl) rfl, Oper.upon_enter]
    refine HE.out.mono ?_
    rintro e w1 ⟨rfl, rfl⟩
    go_wp2_with (first | ((with_reducible refine H1.out.mono ?_); rintro e w2 ⟨rfl, rfl⟩) | ((with_reducible refine H2.out.mono ?_); rintro e w2 ⟨rfl, rfl⟩))
    go_ret
    exact ⟨rfl, rfl⟩
/-- A check's code answers as the rule says. -/
def answerB (c r : Int) : Bool := if r = 1 then c == 1 else if r = 0 then c == 0 else true
set_option maxHeartbeats 1000000 in
theorem answered_any (c r : Int) (w : World) : Calls Tryz.prog 11 #[.int .i64 c, .int .i64 r] w (SameE (.bool (answerB c r)) w) := by
  by_cases h1 : r = 1
  · subst h1
    have F : Hid ((c == 1) = answerB c 1) := by
      show _ = _
      unfold answerB; rw [if_pos rfl]
    go_enter Tryz.func11, Tryz.ntmps11
    go_wp2
    go_ret
    exact ⟨ret_bool F.out, rfl⟩
  · by_cases h0 : r = 0
    · subst h0
      have F : Hid ((c == 0) = answerB c 0) := by
        show _ = _
        unfold answerB; rw [if_neg h1, if_pos rfl]
      clear h1
      go_enter Tryz.func11, Tryz.ntmps11
      go_wp2
      go_ret
      exact ⟨ret_bool F.out, rfl⟩
    · have F : Hid (true = answerB c r) := by
        show _ = _
        unfold answerB; rw [if_neg h1, if_neg h0]
      have h1' : (r == 1) = false := by rw [beq_eq_false_iff_ne]; exact h1
      have h0' : (r == 0) = false := by rw [beq_eq_false_iff_ne]; exact h0
      clear h1 h0
      go_enter Tryz.func11, Tryz.ntmps11
      go_wp2
      go_ret
      exact ⟨ret_bool F.out, rfl⟩
/-- Whether a name is refused. -/
def ruleV (p e : List Int) : Int :=
  let bad := fnd e
  let good := if p = [] then 1 else fnd p
  if bad = 1 ∨ good = 0 then 1 else if bad = 2 ∨ good = 2 then 2 else 0
theorem fnd_cases (xs : List Int) : fnd xs = 0 ∨ fnd xs = 1 ∨ fnd xs = 2 := by
  unfold fnd; split
  · simp
  · split <;> simp
set_option maxHeartbeats 2000000 in
theorem rule_any (A B : Option Addr) (n m c d : Nat) (p e : List Int) (w : World) (hn : n = p.length) (hm : m = e.length) (hp : p.length ≤ 2147483647) (he : e.length ≤ 2147483647) (ha : Rd w A (ints p)) (hb : Rd w B (ints e)) :
    Calls Tryz.prog 13 #[.slice A n c, .slice B m d] w (SameE (.int .i64 (ruleV p e)) w) := by
  have HE := Lib.hid (found_any B m d e w hm he hb)
  have HP := Lib.hid (found_any A n c p w hn hp ha)
  have c1 := fnd_cases e
  have c2 := fnd_cases p
  have hr : ruleV p e = if fnd e = 1 ∨ (if p = [] then 1 else fnd p) = 0 then 1 else if fnd e = 2 ∨ (if p = [] then 1 else fnd p) = 2 then 2 else 0 := rfl
  generalize ruleV p e = z at *
  generalize fnd e = x at *
  generalize fnd p = y at *
  have hx : IntKind.i64.wrap 0 = 0 := by decide
  clear hx ha hb hm he
  by_cases h0 : p = []
  · rw [if_pos h0] at hr
    obtain rfl : n = 0 := by rw [hn, h0]; rfl
    clear hn h0 hp HP c2
    rcases c1 with rfl | rfl | rfl
    all_goals
      have HR := Lib.hid hr
      clear hr
      go_enter Tryz.func13, Tryz.ntmps13
      go_wp2_with ((with_reducible refine HE.out.mono ?_); rintro e w1 ⟨rfl, rfl⟩)
      go_ret
      exact ⟨ret_int (by rw [HR.out]; rfl), rfl⟩
  · rw [if_neg h0] at hr
    have hpos : 0 < n := by rw [hn]; exact List.length_pos_iff.2 h0
    clear hn h0 hp
    rcases c1 with rfl | rfl | rfl
    all_goals
      rcases c2 with rfl | rfl | rfl
      all_goals
        have HR := Lib.hid hr
        clear hr
        go_enter Tryz.func13, Tryz.ntmps13
        go_wp2_with (first | ((with_reducible refine HE.out.mono ?_); rintro e w1 ⟨rfl, rfl⟩) | ((with_reducible refine HP.out.mono ?_); rintro e w2 ⟨rfl, rfl⟩))
        go_ret
        exact ⟨ret_int (by rw [HR.out]; rfl), rfl⟩
end Go.Proofs.YtdinnpjplgkffaaGreatDoor
