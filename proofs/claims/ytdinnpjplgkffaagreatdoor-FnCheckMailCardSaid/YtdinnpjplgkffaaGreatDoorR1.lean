/-
  Mailboxes as keys of a map; strings.ToLower told exactly.
-/
import Derived.Test.YtdinnpjplgkffaaGreatDoorE4
import Derived.Test.YtdinnpjplgkffaaGreatDoorPMails
import Derived.DeepKeys4
import Derived.Maps.OwnSet
namespace Go.Proofs.YtdinnpjplgkffaaGreatDoor
open Go.ChangeShapes Go.WideShapes Go.ChangeAt Go.RowKit Go.Maps

/-! ### LOWER CASE -/
theorem lowerB_eq (b : UInt8) : Lib.lowerB b = lowB b := by
  refine UInt8.toNat_inj.1 ?_
  rw [lowB_toNat]
  unfold Lib.lowerB Lib.isUpperB low
  by_cases h : 65 ≤ b.toNat ∧ b.toNat ≤ 90
  · rw [if_pos h, if_pos (by rw [Bool.and_eq_true, decide_eq_true_eq, decide_eq_true_eq]; exact ⟨UInt8.le_iff_toNat_le.2 h.1, UInt8.le_iff_toNat_le.2 h.2⟩), UInt8.toNat_add]
    have : (32 : UInt8).toNat = 32 := rfl
    omega
  · rw [if_neg h, if_neg (by
      rw [Bool.and_eq_true, decide_eq_true_eq, decide_eq_true_eq]
      exact fun e => h ⟨UInt8.le_iff_toNat_le.1 e.1, UInt8.le_iff_toNat_le.1 e.2⟩)]
theorem strLower_eq (s : ByteArray) (hs : s.size ≤ 2147483647) (ha : ∀ c ∈ bytes s, c.toNat < 128) (w : World) : Calls Tryz.prog 39 #[.string s] w (Ret (.string (ofBytes (lowL (bytes s)))) w) := by
  have h := Go.Proofs.Any.strings_ToLower_ascii laidLower extraLower s w (by omega) (fun j b hb => ha b (List.mem_of_getElem? hb))
  change Calls Tryz.prog 39 _ _ _ at h
  refine h.mono fun e w' h => ?_
  obtain ⟨rfl, hb⟩ := h
  refine ⟨?_, hb⟩
  have e1 : Lib.toLowerA s.data.toList = lowL (bytes s) := by
    unfold Lib.toLowerA lowL bytes
    congr 1
    funext c
    exact lowerB_eq c
  show Ending.returned (.string ⟨(Lib.toLowerA s.data.toList).toArray⟩) = _
  rw [e1]; rfl

/-! ### KEYS -/
theorem mbLaw : WideMaps.KeyLaw Tryz.prog 73 := deep_law_laid laidOut (m := 2) (by omega) (of_decide_eq_true (by kernel_rfl)) (by kernel_rfl) (by kernel_rfl)
theorem mbKeyed : Keyed Tryz.prog 73 := Keyed.of_law mbLaw
theorem mbCells : Tryz.prog.cellsOf 73 = 2 := by kernel_rfl
theorem mbIs : Tryz.prog.keyType 73 = true := by kernel_rfl
theorem types_succ : ∃ m, Tryz.prog.types.size = m + 1 := Nat.exists_eq_succ_of_ne_zero (of_decide_eq_true (by kernel_rfl))
def mbLit (a b : ByteArray) : Lit := .string (keyBytes [.string a.data.toList, .string b.data.toList])
theorem mbKey (a b : ByteArray) (ha : a.size ≤ maxLen) (hb : b.size ≤ maxLen) : keyOf Tryz.prog 73 (.agg #[.string a, .string b]) = some (mbLit a b) := by
  unfold keyOf
  simp only [Tryz.underlying73]
  rw [if_pos (by simp [mbIs, Value.formed, Tryz.underlying73, mbCells])]
  obtain ⟨m, hm⟩ := types_succ
  rw [hm]
  unfold Program.keyLits
  simp only [Tryz.underlying73, Value.cells]
  rw [if_pos ⟨by rw [mbCells]; rfl, by decide +kernel⟩]
  unfold mbLit
  simp [Program.keyLits, Tryz.underlying9, cells_string, ha, hb]
theorem mbLit_inj {a b c d : ByteArray} (ha : a.size ≤ maxLen) (hb : b.size ≤ maxLen) (hc : c.size ≤ maxLen) (hd : d.size ≤ maxLen) (h : mbLit a b = mbLit c d) : a = c ∧ b = d := by
  have e := mbKeyed.inj (mbKey a b ha hb) (by rw [h]; exact mbKey c d hc hd)
  injection e with e
  have e1 := congrArg (·.toList) e
  simp only [List.cons.injEq, Value.string.injEq, and_true] at e1
  exact e1

/-! ### A SET OF MAILBOXES -/
def mbSet (ps : List (ByteArray × ByteArray)) : DataW Unit := setOf (.agg []) (ps.map fun p => mbLit p.1 p.2)
def mbSmall (ps : List (ByteArray × ByteArray)) : Prop := ∀ p ∈ ps, p.1.size ≤ maxLen ∧ p.2.size ≤ maxLen
theorem mbSet_snoc (ps : List (ByteArray × ByteArray)) (a b : ByteArray) : mbSet (ps ++ [(a, b)]) = (mbSet ps).put (mbLit a b) (.agg []) := by
  unfold mbSet
  rw [List.map_append, List.map_cons, List.map_nil, setOf_snoc]
theorem mbLit_key (a b : ByteArray) : WideAt.IsKeyLit (mbLit a b) := trivial
theorem mbSet_has {ps : List (ByteArray × ByteArray)} (hs : mbSmall ps) {a b : ByteArray} (ha : a.size ≤ maxLen) (hb : b.size ≤ maxLen) : has (mbSet ps) (mbLit a b) = true ↔ (a, b) ∈ ps := by
  unfold mbSet
  rw [has_setOf _ _ _ (fun x hx => by obtain ⟨p, -, rfl⟩ := List.mem_map.1 hx; exact mbLit_key _ _), List.any_map, List.any_eq_true]
  constructor
  · rintro ⟨p, hp, e⟩
    have e2 := WideAt.sameKey_eq (show (mbLit p.1 p.2).sameKey (mbLit a b) = true from e)
    obtain ⟨e3, e4⟩ := mbLit_inj (hs p hp).1 (hs p hp).2 ha hb e2
    rw [← e3, ← e4]
    exact hp
  · intro h
    exact ⟨(a, b), h, WideAt.sameKey_self (mbLit_key _ _)⟩
theorem mbSet_map (ps : List (ByteArray × ByteArray)) : IsMap (mbSet ps) :=
  (tidy_setOf _ _ (fun x hx => by obtain ⟨p, -, rfl⟩ := List.mem_map.1 hx; exact mbLit_key _ _)).isMap
theorem mbSet_size (ps : List (ByteArray × ByteArray)) : Maps.size (mbSet ps) = 0 ↔ ps = [] := by
  constructor
  · intro h
    cases ps with
    | nil => rfl
    | cons p r =>
      exfalso
      have h1 : has (mbSet (p :: r)) (mbLit p.1 p.2) = true := by
        unfold mbSet
        rw [has_setOf _ _ _ (fun x hx => by obtain ⟨p, -, rfl⟩ := List.mem_map.1 hx; exact mbLit_key _ _), List.any_map, List.any_eq_true]
        exact ⟨p, List.mem_cons_self, WideAt.sameKey_self (mbLit_key _ _)⟩
      obtain ⟨es, e⟩ := mbSet_map (p :: r)
      rw [e] at h h1
      rw [size_eq] at h
      rw [List.eq_nil_of_length_eq_zero h] at h1
      cases h1
  · rintro rfl
    rfl
end Go.Proofs.YtdinnpjplgkffaaGreatDoor
