/-
  Walk: domainToReverseLabels: the labels of a domain, the last one first, and whether it has such. Texts of at most 2^30 bytes.
-/
import Derived.Test.YtdinnpjplgkffaaGreatDoorW11
namespace Go.Proofs.YtdinnpjplgkffaaGreatDoor
open Go.RowKit

theorem bytes_ix (s : ByteArray) (k : Nat) (h : k < s.size) (h' : k < (bytes s).length) : (bytes s)[k]'h' = s[k]'h := by
  have := bytes_get s k h
  rw [List.getElem?_eq_getElem h'] at this
  exact Option.some.inj this
/-- The labels, the last one first; none of nothing. -/
def revB (l : List UInt8) : List ByteArray := if l.isEmpty then [] else (labelsB l).reverse
def okL (l : List UInt8) : Bool := l.isEmpty || validN l

def RevInv (l d : List UInt8) (acc : List ByteArray) : Prop := (d ≠ [] → revB l = acc ++ (labelsB d).reverse) ∧ (d = [] → acc = revB l)
theorem RevInv.start (l : List UInt8) : RevInv l l [] := by
  unfold RevInv revB
  cases l with
  | nil => simp
  | cons c r => simp
theorem RevInv.whole {l d : List UInt8} {acc : List ByteArray} (h : RevInv l d acc) (hd : d ≠ []) (hn : ∀ c ∈ d, c ≠ 46) (x : ByteArray) (hx : bytes x = d) : RevInv l [] (acc ++ [x]) := by
  refine ⟨fun h => absurd rfl h, fun _ => ?_⟩
  rw [h.1 hd]
  unfold labelsB
  rw [splitDot_noDot _ hn]
  simp [← hx, ofBytes_bytes]
theorem labelsB_at {a b : List UInt8} (hb : ∀ c ∈ b, c ≠ 46) : labelsB (a ++ 46 :: b) = labelsB a ++ [ofBytes b] := by
  unfold labelsB
  rw [splitDot_append, splitDot_noDot _ hb]
  simp
theorem RevInv.cut {l a b : List UInt8} {acc : List ByteArray} (h : RevInv l (a ++ 46 :: b) acc) (ha : a ≠ []) (hb : ∀ c ∈ b, c ≠ 46) (x : ByteArray) (hx : bytes x = b) : RevInv l a (acc ++ [x]) := by
  refine ⟨fun _ => ?_, fun h => absurd h ha⟩
  rw [h.1 (by simp), labelsB_at hb]
  simp [← hx, ofBytes_bytes]
theorem RevInv.cut0 {l b : List UInt8} {acc : List ByteArray} (h : RevInv l (46 :: b) acc) (hb : ∀ c ∈ b, c ≠ 46) (x y : ByteArray) (hx : bytes x = b) (hy : bytes y = []) : RevInv l [] (acc ++ [x] ++ [y]) := by
  refine ⟨fun h => absurd rfl h, fun _ => ?_⟩
  rw [h.1 (by simp), show (46 :: b : List UInt8) = [] ++ 46 :: b from rfl, labelsB_at hb]
  have : labelsB [] = [y] := by
    have : y = ofBytes [] := bytes_inj (by rw [hy, bytes_ofBytes])
    rw [this]; rfl
  rw [this]
  simp [← hx, ofBytes_bytes]

theorem revB_mem {l : List UInt8} {x : ByteArray} (h : x ∈ revB l) : bytes x ∈ splitDot l := by
  unfold revB at h
  split at h
  · simp at h
  · rw [List.mem_reverse] at h
    obtain ⟨y, hy, rfl⟩ := List.mem_map.1 h
    rw [bytes_ofBytes]; exact hy
theorem revB_mem' {l x : List UInt8} (hl : l.isEmpty = false) (h : x ∈ splitDot l) : ofBytes x ∈ revB l := by
  unfold revB
  rw [hl, if_neg (by simp), List.mem_reverse]
  exact List.mem_map.2 ⟨x, h, rfl⟩
theorem splitDot_sub : ∀ (l x : List UInt8) (c : UInt8), x ∈ splitDot l → c ∈ x → c ∈ l
  | [], x, c, h, hc => by simp [splitDot] at h; subst h; simp at hc
  | d :: r, x, c, h, hc => by
    unfold splitDot at h
    split at h
    · rcases List.mem_cons.1 h with rfl | h
      · simp at hc
      · exact List.mem_cons_of_mem _ (splitDot_sub r x c h hc)
    · cases hs : splitDot r with
      | nil => exact absurd hs (splitDot_ne r)
      | cons a t =>
        rw [hs] at h
        rcases List.mem_cons.1 h with rfl | h
        · rcases List.mem_cons.1 hc with rfl | hc
          · simp
          · exact List.mem_cons_of_mem _ (splitDot_sub r a c (by rw [hs]; simp) hc)
        · exact List.mem_cons_of_mem _ (splitDot_sub r x c (by rw [hs]; simp [h]) hc)
theorem okL_empty {l : List UInt8} {x : ByteArray} (h : x ∈ revB l) (hx : x.size = 0) : okL l = false := by
  have hm := revB_mem h
  have hne : l.isEmpty = false := by
    cases l with
    | nil => simp [revB] at h
    | cons _ _ => rfl
  have : bytes x = [] := List.eq_nil_of_length_eq_zero (by rw [bytes_length]; exact hx)
  rw [this] at hm
  unfold okL validN
  rw [hne, Bool.false_or, Bool.and_eq_false_iff]
  right
  rw [List.all_eq_false]
  exact ⟨[], hm, by simp⟩
theorem okL_byte {l : List UInt8} {x : ByteArray} (h : x ∈ revB l) (j : Nat) (hj : j < x.size) (hv : visB (x[j]'hj).toNat = false) : okL l = false := by
  have hm := revB_mem h
  have hne : l.isEmpty = false := by
    cases l with
    | nil => simp [revB] at h
    | cons _ _ => rfl
  have hjl : j < (bytes x).length := by rw [bytes_length]; exact hj
  have hc := splitDot_sub l _ _ hm (List.getElem_mem hjl)
  rw [bytes_ix x j hj hjl] at hc
  unfold okL validN
  rw [hne, Bool.false_or, Bool.and_eq_false_iff]
  left
  rw [List.all_eq_false]
  exact ⟨_, hc, by simp [hv]⟩
/-- A label that is not empty, of visible bytes. -/
def GoodLab (x : ByteArray) : Prop := 0 < x.size ∧ ∀ j (hj : j < x.size), visB (x[j]'hj).toNat = true
theorem okL_all {l : List UInt8} (h : ∀ x ∈ revB l, GoodLab x) : okL l = true := by
  unfold okL
  cases hl : l.isEmpty with
  | true => rfl
  | false =>
    rw [Bool.false_or]
    unfold validN
    rw [Bool.and_eq_true, List.all_eq_true, List.all_eq_true]
    have key : ∀ x ∈ splitDot l, 0 < x.length ∧ ∀ c ∈ x, visB c.toNat = true := fun x hx => by
      have := h _ (revB_mem' hl hx)
      obtain ⟨h1, h2⟩ := this
      have e : (ofBytes x).size = x.length := by rw [← bytes_length, bytes_ofBytes]
      refine ⟨by omega, fun c hc => ?_⟩
      obtain ⟨j, hj, rfl⟩ := List.getElem_of_mem hc
      have := h2 j (by omega)
      have e2 := bytes_ix (ofBytes x) j (by omega) (by rw [bytes_ofBytes]; exact hj)
      rw [← e2] at this
      simpa [bytes_ofBytes] using this
    refine ⟨fun c hc => ?_, fun x hx => ?_⟩
    · rcases mem_splitDot l c hc with rfl | ⟨x, hx, hcx⟩
      · rfl
      · exact (key x hx).2 c hcx
    · have := (key x hx).1
      cases x with
      | nil => simp at this
      | cons _ _ => rfl

/-- What is told: the labels where the domain has such. -/
def RevPost (w : World) (l : List UInt8) (e : Ending) (w' : World) : Prop :=
  ∃ v, e = .returned (.tuple #[v, .bool (okL l)]) ∧ (okL l = true → w'.ownsRow w.heap.size 9 1 v (revB l).length (strs (revB l))) ∧ (okL l = false → v = .slice none 0 0) ∧ Below w.heap.size w w'

theorem RevPost.no {w w' : World} {l : List UInt8} (F : okL l = false) (hb : Below w.heap.size w w') : RevPost w l (.returned (.tuple #[.slice none 0 0, .bool false])) w' := by
  refine ⟨.slice none 0 0, by rw [F], ?_, fun _ => rfl, hb⟩
  intro h
  rw [F] at h
  cases h
theorem own_below {w w' : World} {base : Nat} {e : TypeId} {v : Value} {n : Nat} {xs : List Value} (h : w.ownsRow base e 1 v n xs) (hb : Below w.heap.size w w') : w'.ownsRow base e 1 v n xs := by
  refine World.ownsRow.kept (row := none) h ⟨hb.os, hb.tape, hb.output, hb.size, fun i hi _ => hb.block i hi⟩ ?_
  cases hv : v.ownBlock with
  | none => exact .inl rfl
  | some k => exact .inr (by simp)
theorem RevPost.yes {w w' : World} {l : List UInt8} {A : Option Addr} {c : Nat} (F : okL l = true) (ho : w'.ownsRow w.heap.size 9 1 (.slice A (revB l).length c) (revB l).length (strs (revB l))) (hb : Below w.heap.size w w') : RevPost w l (.returned (.tuple #[.slice A (revB l).length c, .bool true])) w' :=
  by
  refine ⟨_, by rw [F], fun _ => ho, ?_, hb⟩
  intro h
  rw [F] at h
  cases h
theorem ret_pair {v : Value} {a b : Bool} (h : a = b) : Ending.returned (.tuple #[v, .bool a]) = .returned (.tuple #[v, .bool b]) := by rw [h]

theorem own_snoc {w : World} {base : Nat} {v : Value} {acc : List ByteArray} {x : ByteArray} (h : w.ownsRow base 9 1 v (acc.length + 1) (strs acc ++ [.string x])) : w.ownsRow base 9 1 v (acc ++ [x]).length (strs (acc ++ [x])) := by
  have e : (acc ++ [x]).length = acc.length + 1 := by simp
  rw [e]
  simpa [strs] using h

/-- What impl.Labels tells: a copy. -/
def LabelsPost (w : World) (l : List UInt8) (e : Ending) (w' : World) : Prop :=
  ∃ v, e = .returned (.tuple #[v, .bool (okL l)]) ∧ (okL l = true → w'.ownsRow w.heap.size 9 1 v (revB l).length (strs (revB l))) ∧ Below w.heap.size w w'
end Go.Proofs.YtdinnpjplgkffaaGreatDoor
