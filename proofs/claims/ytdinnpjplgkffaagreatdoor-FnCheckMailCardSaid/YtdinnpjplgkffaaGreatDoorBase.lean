/-
  Helpers for this seat's proofs: facts on the head's words, a closing lemma for rows whose walk ends in 'Below', and the element types' rows of the table. No condition.
-/
import Derived.Test.YtdinnpjplgkffaaGreatDoorRows
import Derived.JoinedOf
import Derived.WalkKit
import Derived.WalkSpells
import Derived.ProofKit
import Derived.OpenShut
import Derived.ShutString
import Derived.Lib.Hide
import Derived.Deep.LoopGhost
import Derived.Deep.QuietTactic
import Derived.BigQuiet
import Derived.ChangeSame
namespace Go.Proofs.YtdinnpjplgkffaaGreatDoor
open Go.RowKit Go.WideShapes Go.ChangeShapes

theorem make_of (P : Program) (L : List Char) (h : P.initOrder.toList = L) (W : List Char) (WR : List (List Char)) (h2 : behindMainWord (wordsSigns L) = W :: WR)
    (h3 : (W == "cut".toList) = true) (h4 : (W == "gc".toList) = false) (h5 : (W == "spec".toList) = false) : P.make = some .cut := by
  unfold Program.make
  rewrite [h, h2]
  simp only [h3, h4, h5, Bool.or_self, Bool.false_eq_true, if_false, Bool.true_or, if_true]
theorem headLifts_of (P : Program) (L : List Char) (h : P.initOrder.toList = L) (W : List Char) (WR : List (List Char)) (h2 : behindMainWord (wordsSigns L) = W :: WR)
    (h3 : stripLifts liftWords (W :: WR) = ([], W :: WR)) : P.headLifts = [] := by
  unfold Program.headLifts
  rewrite [h, h2]
  simp only [h3, ite_self]
theorem liftsFinal_of (P : Program) (L : List Char) (h : P.initOrder.toList = L) (W : List Char) (WR : List (List Char)) (h2 : behindMainWord (wordsSigns L) = W :: WR)
    (h3 : stripLifts liftWords (W :: WR) = ([], W :: WR)) (h4 : (W == "carried".toList) = false) : P.liftsFinal = false := by
  unfold Program.liftsFinal
  rewrite [headLifts_of P L h W WR h2 h3, h, h2]
  have e : (some W == some "carried".toList) = false := h4
  simp only [List.head?_cons, e, Bool.false_and, List.contains_nil, Bool.or_self]
theorem mayEnter_of (P : Program) (L : List Char) (h : P.initOrder.toList = L) (W : List Char) (WR : List (List Char)) (h2 : behindMainWord (wordsSigns L) = W :: WR)
    (h3 : stripLifts liftWords (W :: WR) = ([], W :: WR)) (h4 : (W == "cut".toList) = true) (h5 : P.laysLater = false) (h6 : P.bearsReflect = false) (h7 : P.doorFits [] = true) : P.mayEnter = true := by
  unfold Program.mayEnter
  rewrite [h, h2]
  have e : (some W == some "cut".toList) = true := h4
  simp only [h3, h5, h6, h7, List.head?_cons, e, List.contains_nil, Bool.not_false, Bool.or_true, Bool.and_self]
theorem facts_of {P : Program} {f : FuncId} {fn : Func} {s : ChangeSpec} {c : OpenClaim} {X k p v vf : Bool}
    (e : joinedFacts P f fn s c = (((((((X && P.mayEnter) && (c.lifted == P.liftsFinal)) && (P.make == some c.make)) && k) && p) && v) && vf))
    (h1 : P.mayEnter = true) (h2 : P.liftsFinal = false) (h3 : P.make = some .cut) (c2 : c.lifted = false) (c3 : c.make = .cut)
    (hX : X = true) (hk : k = true) (hp : p = true) (hv : v = true) (hvf : vf = true) : joinedFacts P f fn s c = true := by
  rewrite [e, hX, hk, hp, hv, hvf, h1, h2, h3, c2, c3]
  decide

def headSigns : List Char := List.map Char.ofNat [104, 97, 114, 110, 101, 115, 115, 32, 52, 53, 57, 48, 51, 99, 102, 56, 52, 98, 50, 54, 98, 98, 52, 53, 97, 48, 48, 57, 53, 52, 100, 49, 98, 50, 100, 102, 48, 101, 51, 98, 99, 56, 56, 57, 54, 56, 48, 57, 56, 97, 52, 55, 51, 101, 51, 100, 99, 102, 102, 54, 49, 53, 50, 53, 54, 56, 55, 56, 53, 56, 50, 54, 32, 99, 117, 116, 32, 97, 116, 32, 108, 111, 111, 112, 46, 101, 120, 97, 109, 112, 108, 101, 47, 112, 117, 98, 45, 103, 48, 51, 49, 50, 57, 47, 108, 97, 119, 115, 46, 70, 110, 67, 104, 101, 99, 107, 77, 97, 105, 108]
def headTail : List (List Char) := List.map (List.map Char.ofNat) [[97, 116], [108, 111, 111, 112, 46, 101, 120, 97, 109, 112, 108, 101, 47, 112, 117, 98, 45, 103, 48, 51, 49, 50, 57, 47, 108, 97, 119, 115, 46, 70, 110, 67, 104, 101, 99, 107, 77, 97, 105, 108]]
def headWord : List Char := List.map Char.ofNat [99, 117, 116]
theorem head_is : Tryz.prog.initOrder = String.ofList headSigns := by kernel_rfl
theorem head_toList : Tryz.prog.initOrder.toList = headSigns := (congrArg String.toList head_is).trans String.toList_ofList
theorem head_words : behindMainWord (wordsSigns headSigns) = headWord :: headTail := by kernel_rfl
theorem head_strip : stripLifts liftWords (headWord :: headTail) = ([], headWord :: headTail) := by kernel_rfl
theorem head_make : Tryz.prog.make = some .cut := make_of _ _ head_toList _ _ head_words (by kernel_rfl) (by kernel_rfl) (by kernel_rfl)
theorem head_lifts : Tryz.prog.liftsFinal = false := liftsFinal_of _ _ head_toList _ _ head_words head_strip (by kernel_rfl)
theorem head_enter : Tryz.prog.mayEnter = true := mayEnter_of _ _ head_toList _ _ head_words head_strip (by kernel_rfl) (by kernel_rfl) (by kernel_rfl) (by kernel_rfl)

theorem own : ownKnob Tryz.prog.godebug = none := by kernel_rfl
theorem laidOut : laidOutB Tryz.prog = true := by kernel_rfl

section
variable {H : Type} {enc : TypeId × Value → H} {P : Program}
/-- The row's last step where of the walk's world 'Below' is known: nothing that was there has turned. -/
theorem post_below {f : Func} {s : ChangeSpec} {apart fresh handsOn : Bool} {W W' : World} {args : Array Value} {v : Value} {ds gs : List (DataW H)} {before pa pv : List MemPlace}
    (hW : DataW.Whole enc P f.params.toList s.vars apart W args.toList ds gs before)
    (hres : ∀ (b : Nat) (sp : Nat → Bool) (hd : Bool), DataW.TrodAll enc P W' b sp hd f.resultTypes.toList (v.resultList f.resultTypes.size) (s.fn H (ds ++ gs)).results [])
    (hargs : ∀ sp : Nat → Bool, (∀ p ∈ before, sp p.block = true) → DataW.TrodAll enc P W' 0 sp true f.params.toList args.toList (s.fn H (ds ++ gs)).args pa)
    (hvars : ∀ sp : Nat → Bool, (∀ p ∈ before, sp p.block = true) → DataW.TrodVars enc P W' sp s.vars (s.fn H (ds ++ gs)).vars pv)
    (hps : before = pa ++ pv) (hb : Below W.heap.size W W') :
    s.post enc P f apart fresh handsOn false W args v W' := by
  have hlt : ∀ p ∈ before, p.block < W.heap.size := fun p hp => hW.lt p hp
  have hold : ∀ p ∈ before, (fun b => decide (b < W.heap.size)) p.block = true := fun p hp => by simpa using hlt p hp
  refine ⟨ds, gs, before, [], pa, pv, hW, hres _ _ _, hargs _ hold, hvars _ hold, World.keptBut_mono (fun p hp => ⟨hp, ?_⟩) (hb.frame (· ∈ before)), fun h => by cases h⟩
  rw [hps, List.mem_append] at hp
  exact Or.inr hp
end

/-! ### THE ELEMENT TYPES' ROWS OF THE TABLE -/
theorem info_string : (Tryz.prog.info? 9).map (fun i => (i.zero, i.size, i.bytes)) = some (some (.string ByteArray.empty), 1, 16) := by kernel_rfl
theorem info_u8 : (Tryz.prog.info? 5).map (fun i => (i.zero, i.size, i.bytes)) = some (some (.int .u8 0), 1, 1) := by kernel_rfl
theorem info_int : (Tryz.prog.info? 3).map (fun i => (i.zero, i.size, i.bytes)) = some (some (.int .i64 0), 1, 8) := by kernel_rfl

theorem ret_bool {a b : Bool} (h : a = b) : Ending.returned (.bool a) = .returned (.bool b) := by rw [h]
theorem ret_int {k : IntKind} {a b : Int} (h : a = b) : Ending.returned (.int k a) = .returned (.int k b) := by rw [h]
theorem ret_str {a b : ByteArray} (h : a = b) : Ending.returned (.string a) = .returned (.string b) := by rw [h]

/-! ### SMALL FACTS ON WORLDS -/
theorem below_drewN {B : Nat} {a w : World} (h : Below B a w) (n : Nat) : Below B a (w.drewN n) := ⟨h.os, h.tape, h.output, h.size, h.block⟩
theorem Below.next {a b c : World} (h : Below a.heap.size a b) (k : Below b.heap.size b c) : Below a.heap.size a c := h.trans (k.mono h.size)
theorem Below.one (w : World) (o : Obj) : Below w.heap.size w (w.alloc o) := (Below.refl _ _).alloc (Nat.le_refl _) _
theorem add_block (a : Addr) (n : Nat) : (a.add n).block = a.block := by unfold Addr.add; split <;> rfl
theorem blk_lt {w : World} {g : Nat} {o : Obj} (h : w.heap[g]? = some o) : g < w.heap.size := by
  rcases Nat.lt_or_ge g w.heap.size with hlt | hge
  · exact hlt
  · rw [Array.getElem?_eq_none hge] at h; cases h
theorem blk_cell {w : World} {g : Nat} {C : Array Value} {t : TypeId} {fr : Nat × Nat} (h : w.heap[g]? = some (.cells C t fr)) (j : Nat) : w.cell? ⟨g, j, none⟩ = C[j]? := cell_of_row w g j C t fr h
theorem blk_free {w : World} {g : Nat} {C : Array Value} {t : TypeId} {fr : Nat × Nat} (h : w.heap[g]? = some (.cells C t fr)) {j : Nat} (hj : j < fr.1) : w.frozen? ⟨g, j, none⟩ = false := by
  simp [World.frozen?, h]; omega
theorem blk_set {w : World} {g : Nat} {C : Array Value} {t : TypeId} {fr : Nat × Nat} (h : w.heap[g]? = some (.cells C t fr)) (i : Nat) (u : Value) : (w.setCell ⟨g, i, none⟩ u).heap[g]? = some (.cells (C.setIfInBounds i u) t fr) := by
  simp [World.setCell, Array.getElem?_modify, h]
theorem blk_new (w : World) (o : Obj) : (w.alloc o).heap[w.heap.size]? = some o := by
  show (w.heap.push o)[w.heap.size]? = _
  simp
/-- A slice's cells as they read: nothing is said of an address where there is no cell. -/
def Rd (w : World) (A : Option Addr) (vs : List Value) : Prop := ∀ i v, vs[i]? = some v → ∃ ad, A = some ad ∧ ad.block < w.heap.size ∧ w.cell? (ad.add i) = some v
theorem Rd.below {w w' : World} {A : Option Addr} {vs : List Value} (h : Rd w A vs) (hb : Below w.heap.size w w') : Rd w' A vs := fun i v hv => by
  obtain ⟨ad, rfl, hlt, hc⟩ := h i v hv
  exact ⟨ad, rfl, Nat.lt_of_lt_of_le hlt hb.size, (hb.cell (p := ad.add i) (by rw [add_block]; exact hlt)).trans hc⟩
theorem Rd.new (w : World) (cs : Array Value) (T : TypeId) : Rd (w.alloc (.cells cs T)) (some ⟨w.heap.size, 0, none⟩) cs.toList := fun i v hv => by
  refine ⟨_, rfl, by simp, ?_⟩
  rw [show (⟨w.heap.size, 0, none⟩ : Addr).add i = ⟨w.heap.size, i, none⟩ by simp [Addr.add]; intro h; exact h.symm, World.cell?_alloc_mark]
  simpa using hv
theorem Rd.nil (w : World) (A : Option Addr) : Rd w A [] := fun i v hv => by simp at hv
theorem Rd.own {w : World} {base : Nat} {e : TypeId} {v : Value} {n : Nat} {xs : List Value} (h : w.ownsRow base e 1 v n xs) : ∃ A cap, v = .slice A n cap ∧ n ≤ cap ∧ cap ≤ maxLen ∧ Rd w A xs ∧ xs.length = n := by
  obtain ⟨h1, h2⟩ := h
  rcases h2 with ⟨rfl, rfl⟩ | ⟨g, cap, cur, rfl, hbase, hh, hnc, hcm, hsz, htk⟩
  · exact ⟨none, 0, rfl, Nat.le_refl _, by simp [maxLen], fun i v hv => by rw [List.eq_nil_of_length_eq_zero (l := xs) (by simpa using h1)] at hv; simp at hv, by simpa using h1⟩
  · refine ⟨some ⟨g, 0, none⟩, cap, rfl, hnc, hcm, fun i v hv => ⟨⟨g, 0, none⟩, rfl, ?_, ?_⟩, by simpa using h1⟩
    · show g < w.heap.size
      rcases Nat.lt_or_ge g w.heap.size with hlt | hge
      · exact hlt
      · rw [Array.getElem?_eq_none hge] at hh; cases hh
    · exact World.ownsRow.cells ⟨h1, .inr ⟨g, cap, cur, rfl, hbase, hh, hnc, hcm, hsz, htk⟩⟩ rfl i v hv
end Go.Proofs.YtdinnpjplgkffaaGreatDoor
