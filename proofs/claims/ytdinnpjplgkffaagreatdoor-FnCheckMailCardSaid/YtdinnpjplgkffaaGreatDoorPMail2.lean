/-
  Plain laws on mailboxes: local parts without quotes and between quotes are parsed back; what is none. No condition.
-/
import Derived.Test.YtdinnpjplgkffaaGreatDoorPMail
import Derived.Test.YtdinnpjplgkffaaGreatDoorM4
namespace Go.Proofs.YtdinnpjplgkffaaGreatDoor

/-- A local part without quotes: texts of such bytes, with single dots between. -/
def locL (l : List UInt8) : Prop := ∀ x ∈ splitDot l, x ≠ [] ∧ ∀ c ∈ x, atomC c = true
theorem localOk_locL {l : List UInt8} (h : localOk l) : locL l ∧ l.length ≤ 100 := by
  refine ⟨fun x hx => ?_, h.2⟩
  obtain ⟨j, hj, rfl⟩ := List.getElem_of_mem hx
  have hj' : j < (labelsB l).length := by unfold labelsB; simpa using hj
  have hp := h.1 j hj'
  have e : (labelsB l)[j] = ofBytes (splitDot l)[j] := by simp only [labelsB, List.getElem_map]
  rw [e] at hp
  obtain ⟨h1, h2⟩ := hp
  have hb : bytes (ofBytes (splitDot l)[j]) = (splitDot l)[j] := bytes_ofBytes _
  refine ⟨fun hn => h1 ?_, fun c hc => ?_⟩
  · rw [← bytes_length, hb, hn]; rfl
  · obtain ⟨i, hi, rfl⟩ := List.getElem_of_mem hc
    have hs : i < (ofBytes (splitDot l)[j]).size := by rw [← bytes_length, hb]; exact hi
    have := h2 i hs
    rw [← bytes_ix _ i hs (by rw [hb]; exact hi)] at this
    simpa [hb] using this
theorem atomC_unq {c : UInt8} (h : atomC c = true) : unqB c = true ∧ c ≠ 92 ∧ c ≠ 34 ∧ c ≠ 64 ∧ c ≠ 46 := by
  unfold atomC low at h
  unfold unqB
  simp only [Bool.or_eq_true, Bool.and_eq_true, decide_eq_true_eq, atomS, List.contains_eq_mem, List.mem_cons, List.not_mem_nil, or_false, ← UInt8.toNat_inj, beq_iff_eq, ne_eq, UInt8.toNat_ofNat] at h ⊢
  have := c.toNat_lt
  split at h <;> omega
theorem locL_byte {l : List UInt8} (h : locL l) : ∀ c ∈ l, unqB c = true ∧ c ≠ 92 ∧ c ≠ 34 ∧ c ≠ 64 := fun c hc => by
  rcases mem_splitDot l c hc with rfl | ⟨x, hx, hcx⟩
  · decide
  · have := atomC_unq ((h x hx).2 c hcx)
    exact ⟨this.1, this.2.1, this.2.2.1, this.2.2.2.1⟩
theorem locL_dots {l : List UInt8} (h : locL l) : dotsM l = true := by
  have h1 : l ≠ [] := fun e => by subst e; exact (h [] (by simp [splitDot])).1 rfl
  have h2 : l.head? ≠ some 46 := fun e => by
    cases l with
    | nil => simp at e
    | cons c r =>
      simp at e
      subst e
      exact (h [] (by simp [splitDot])).1 rfl
  have h3 : l.getLast? ≠ some 46 := fun e => (h [] (splitDot_last e)).1 rfl
  have h4 : twoL l = false := by
    cases e : twoL l
    · rfl
    · obtain ⟨a, b, rfl⟩ := twoL_split l e
      refine absurd rfl (h [] ?_).1
      rw [splitDot_append]
      simp [splitDot]
  unfold dotsM
  simp [h1, h2, h3, h4]
theorem locL_append {a b : List UInt8} (ha : locL a) (hb : locL b) : locL (a ++ 46 :: b) := fun x hx => by
  rw [splitDot_append, List.mem_append] at hx
  rcases hx with hx | hx
  · exact ha x hx
  · exact hb x hx
theorem parseA_run : ∀ (l r acc : List UInt8), (∀ c ∈ l, unqB c = true ∧ c ≠ 92 ∧ c ≠ 34 ∧ c ≠ 64) → parseA (l ++ r) acc = parseA r (acc ++ l)
  | [], r, acc, _ => by simp
  | c :: t, r, acc, h => by
    have hc := h c (by simp)
    show parseA (c :: (t ++ r)) acc = _
    rw [parseA_text _ _ hc.2.1 hc.1, parseA_run t r _ (fun x hx => h x (by simp [hx]))]
    simp
theorem parseA_at (d acc : List UInt8) : parseA (64 :: d) acc = some (acc, 64 :: d) := parseA_stop _ _ (by decide) (by decide)
theorem parseM_head {c : UInt8} {r : List UInt8} (h : c ≠ 34) : parseM (c :: r) = (parseA (c :: r) []).bind restM := by
  unfold parseM
  simp only [if_neg h]
theorem finishM_name {a d : List UInt8} (h : nameOk d = true) : finishM (a, 64 :: d) = some (a, d) := by
  have h2 : d.any (· == 64) = false := by
    rw [List.any_eq_false]
    intro c hc
    rcases nameOk_byte h c hc with rfl | h1
    · decide
    · intro e
      rw [beq_iff_eq] at e
      subst e
      revert h1
      decide
  unfold finishM
  simp [nameOk_validL h, h2]
/-- Bytes ahead of an @. -/
theorem parseM_at {l : List UInt8} (d : List UInt8) (h : ∀ c ∈ l, unqB c = true ∧ c ≠ 92 ∧ c ≠ 34 ∧ c ≠ 64) : parseM (l ++ 64 :: d) = restM (l, 64 :: d) := by
  cases l with
  | nil => rw [List.nil_append, parseM_head (by decide), parseA_at]; rfl
  | cons c r =>
    show parseM (c :: (r ++ 64 :: d)) = _
    rw [parseM_head (h c (by simp)).2.2.1]
    have := parseA_run (c :: r) (64 :: d) [] h
    rw [parseA_at, List.nil_append] at this
    show (parseA (c :: r ++ 64 :: d) []).bind restM = _
    rw [this]; rfl
theorem parseM_local {a d : List UInt8} (ha : locL a) (hd : nameOk d = true) : parseM (a ++ 64 :: d) = some (a, d) := by
  rw [parseM_at d (locL_byte ha)]
  unfold restM
  rw [if_pos (locL_dots ha), finishM_name hd]
/-- What has no @. -/
theorem parseM_bare {a : List UInt8} (ha : locL a) : parseM a = none := by
  have h := locL_byte ha
  have hd := locL_dots ha
  cases a with
  | nil => rfl
  | cons c r =>
    rw [parseM_head (h c (by simp)).2.2.1]
    have := parseA_run (c :: r) [] [] h
    rw [List.append_nil, List.nil_append, parseA_nil] at this
    rw [this]
    show restM _ = none
    unfold restM
    rw [if_pos hd]; rfl
theorem parseM_dots {a d : List UInt8} (h : ∀ c ∈ a, unqB c = true ∧ c ≠ 92 ∧ c ≠ 34 ∧ c ≠ 64) (hd : dotsM a = false) : parseM (a ++ 64 :: d) = none := by
  rw [parseM_at d h]
  unfold restM
  rw [hd]; rfl
theorem byte46 : unqB 46 = true ∧ (46 : UInt8) ≠ 92 ∧ (46 : UInt8) ≠ 34 ∧ (46 : UInt8) ≠ 64 := by decide
theorem parseM_none0 (d : List UInt8) : parseM (64 :: d) = none := parseM_dots (a := []) (d := d) (by simp) rfl
theorem parseM_none1 {a : List UInt8} (d : List UInt8) (ha : locL a) : parseM (46 :: a ++ 64 :: d) = none := by
  refine parseM_dots (fun c hc => ?_) ?_
  · rcases List.mem_cons.1 hc with rfl | hc
    · exact byte46
    · exact locL_byte ha c hc
  · unfold dotsM; simp
theorem parseM_none2 {a : List UInt8} (d : List UInt8) (ha : locL a) : parseM (a ++ [46] ++ 64 :: d) = none := by
  refine parseM_dots (fun c hc => ?_) ?_
  · rcases List.mem_append.1 hc with hc | hc
    · exact locL_byte ha c hc
    · rw [List.mem_singleton] at hc; subst hc; exact byte46
  · unfold dotsM; simp
theorem parseM_none3 {a b : List UInt8} (d : List UInt8) (ha : locL a) (hb : locL b) : parseM ((a ++ 46 :: 46 :: b) ++ 64 :: d) = none := by
  refine parseM_dots (fun c hc => ?_) ?_
  · rcases List.mem_append.1 hc with hc | hc
    · exact locL_byte ha c hc
    · rcases List.mem_cons.1 hc with rfl | hc
      · exact byte46
      · rcases List.mem_cons.1 hc with rfl | hc
        · exact byte46
        · exact locL_byte hb c hc
  · unfold dotsM; rw [twoL_of]; simp
theorem quoB_pair {c : UInt8} (h : quoB c = true) : qpairB c = true := by
  unfold quoB at h
  unfold qpairB
  simp only [Bool.or_eq_true, Bool.and_eq_true, decide_eq_true_eq, bne_iff_ne, ← UInt8.toNat_inj, beq_iff_eq, ne_eq, UInt8.toNat_ofNat] at h ⊢
  omega
theorem quoB_text {all : Bool} {c : UInt8} (h : quoB c = true) (he : escB all c = false) : qtextB c = true ∧ c ≠ 34 ∧ c ≠ 92 := by
  unfold quoB at h
  unfold escB at he
  unfold qtextB
  simp only [Bool.or_eq_true, Bool.and_eq_true, Bool.or_eq_false_iff, decide_eq_true_eq, bne_iff_ne, ← UInt8.toNat_inj, beq_iff_eq, beq_eq_false_iff_ne, ne_eq, UInt8.toNat_ofNat] at h he ⊢
  omega
theorem parseQ_run (all : Bool) : ∀ (l r acc : List UInt8), (∀ c ∈ l, quoB c = true) → parseQ (quoBody all l ++ 34 :: r) acc = some (acc ++ l, r)
  | [], r, acc, _ => by rw [List.append_nil]; exact parseQ_quote r acc
  | c :: t, r, acc, h => by
    have hc := h c (by simp)
    have ih := fun acc => parseQ_run all t r acc (fun x hx => h x (by simp [hx]))
    have e : quoBody all (c :: t) = (if escB all c then [92, c] else [c]) ++ quoBody all t := by unfold quoBody; rw [List.flatMap_cons]
    rw [e]
    cases he : escB all c
    · obtain ⟨h1, h2, h3⟩ := quoB_text hc he
      show parseQ (c :: (quoBody all t ++ 34 :: r)) acc = _
      rw [parseQ_text _ _ h2 h3 h1, ih]; simp
    · show parseQ (92 :: c :: (quoBody all t ++ 34 :: r)) acc = _
      rw [parseQ_esc _ _ (quoB_pair hc), ih]; simp
theorem parseM_quoted {a d : List UInt8} (all : Bool) (ha : quoOk a) (hd : nameOk d = true) : parseM (quoL all a ++ 64 :: d) = some (a, d) := by
  unfold parseM quoL
  show (if (34 : UInt8) = 34 then (parseQ ((quoBody all a ++ [34]) ++ 64 :: d) []).bind finishM else _) = _
  rw [if_pos rfl, List.append_assoc]
  show (parseQ (quoBody all a ++ 34 :: (64 :: d)) []).bind finishM = _
  rw [parseQ_run all a _ _ ha.1, List.nil_append]
  exact finishM_name hd
end Go.Proofs.YtdinnpjplgkffaaGreatDoor
