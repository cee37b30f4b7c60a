/-
  The plain law of a row of constraints that is sorted, pruned and searched: what is left covers all, none that is left covers another, and the search finds one just where there is one. No condition.
-/
import GoSem.Core.Value
namespace Go.Proofs.YtdinnpjplgkffaaGreatDoor

/-- What is left: each one is held against the last one that was kept. -/
def pruneFrom {α : Type} (sub : α → α → Bool) : α → List α → List α
  | k, [] => [k]
  | k, x :: r => if sub k x = true then pruneFrom sub k r else k :: pruneFrom sub x r
def prune {α : Type} (sub : α → α → Bool) : List α → List α
  | [] => []
  | x :: r => pruneFrom sub x r
theorem pruneFrom_sublist {α : Type} (sub : α → α → Bool) : ∀ (r : List α) (k : α), (pruneFrom sub k r).Sublist (k :: r)
  | [], k => List.Sublist.refl _
  | x :: r, k => by
    unfold pruneFrom
    split
    · exact (pruneFrom_sublist sub r k).trans (List.Sublist.cons_cons k (List.sublist_cons_self x r))
    · exact List.Sublist.cons_cons k (pruneFrom_sublist sub r x)
theorem prune_sublist {α : Type} (sub : α → α → Bool) : ∀ l : List α, (prune sub l).Sublist l
  | [] => List.Sublist.refl _
  | x :: r => pruneFrom_sublist sub r x
theorem pruneFrom_head {α : Type} (sub : α → α → Bool) : ∀ (r : List α) (k : α), ∃ t, pruneFrom sub k r = k :: t
  | [], k => ⟨[], rfl⟩
  | x :: r, k => by
    unfold pruneFrom
    split
    · exact pruneFrom_head sub r k
    · exact ⟨_, rfl⟩
theorem prune_nil {α : Type} (sub : α → α → Bool) (l : List α) : prune sub l = [] ↔ l = [] := by
  cases l with
  | nil => simp [prune]
  | cons x r =>
    obtain ⟨t, e⟩ := pruneFrom_head sub r x
    simp [prune, e]
theorem pruneFrom_covers {α : Type} (sub : α → α → Bool) : ∀ (r : List α) (k : α), (∀ x ∈ k :: r, sub x x = true) → ∀ x ∈ k :: r, ∃ y ∈ pruneFrom sub k r, sub y x = true
  | [], k, h, x, hx => ⟨x, hx, h x hx⟩
  | z :: r, k, h, x, hx => by
    unfold pruneFrom
    split
    case isTrue hs =>
      have ih := pruneFrom_covers sub r k (fun y hy => h y (by rcases List.mem_cons.1 hy with rfl | hy; simp; simp [hy]))
      rcases List.mem_cons.1 hx with rfl | hx
      · exact ih _ (by simp)
      · rcases List.mem_cons.1 hx with rfl | hx
        · obtain ⟨t, e⟩ := pruneFrom_head sub r k
          exact ⟨k, by rw [e]; simp, hs⟩
        · exact ih _ (by simp [hx])
    case isFalse hs =>
      rcases List.mem_cons.1 hx with rfl | hx
      · exact ⟨x, by simp, h _ (by simp)⟩
      · obtain ⟨y, hy, hyx⟩ := pruneFrom_covers sub r z (fun y hy => h y (by simp at hy ⊢; exact .inr hy)) x hx
        exact ⟨y, by simp [hy], hyx⟩
theorem prune_covers {α : Type} (sub : α → α → Bool) (l : List α) (h : ∀ x ∈ l, sub x x = true) : ∀ x ∈ l, ∃ y ∈ prune sub l, sub y x = true := by
  cases l with
  | nil => intro x hx; cases hx
  | cons k r => exact pruneFrom_covers sub r k h
theorem pruneFrom_apart {α : Type} (sub : α → α → Bool) (le : α → α → Prop) : ∀ (r : List α) (k : α), (k :: r).Pairwise le →
    (∀ a ∈ k :: r, ∀ b ∈ k :: r, ∀ c ∈ k :: r, le a b → le b c → sub a c = true → sub a b = true) → (pruneFrom sub k r).Pairwise (fun a b => sub a b = false)
  | [], k, _, _ => by simp [pruneFrom]
  | z :: r, k, hp, hI => by
    unfold pruneFrom
    split
    case isTrue hs =>
      exact pruneFrom_apart sub le r k (hp.sublist (List.Sublist.cons_cons k (List.sublist_cons_self z r))) (fun a ha b hb c hc => hI a (by simp at ha ⊢; rcases ha with h | h <;> simp [h]) b (by simp at hb ⊢; rcases hb with h | h <;> simp [h]) c (by simp at hc ⊢; rcases hc with h | h <;> simp [h]))
    case isFalse hs =>
      have hp2 := List.pairwise_cons.1 hp
      refine List.pairwise_cons.2 ⟨fun y hy => ?_, pruneFrom_apart sub le r z hp2.2 (fun a ha b hb c hc => hI a (by simp at ha ⊢; exact .inr ha) b (by simp at hb ⊢; exact .inr hb) c (by simp at hc ⊢; exact .inr hc))⟩
      have hy2 := (pruneFrom_sublist sub r z).subset hy
      cases e : sub k y
      · rfl
      · exfalso
        apply hs
        rcases List.mem_cons.1 hy2 with rfl | h
        · exact e
        · exact hI k (by simp) z (by simp) y (by simp [h]) (hp2.1 z (by simp)) ((List.pairwise_cons.1 hp2.2).1 y h) e
theorem prune_apart {α : Type} (sub : α → α → Bool) (le : α → α → Prop) (l : List α) (hp : l.Pairwise le)
    (hI : ∀ a ∈ l, ∀ b ∈ l, ∀ c ∈ l, le a b → le b c → sub a c = true → sub a b = true) : (prune sub l).Pairwise (fun a b => sub a b = false) := by
  cases l with
  | nil => simp [prune]
  | cons k r => exact pruneFrom_apart sub le r k hp hI

/-- The search: the place of the lower bound; that one, or the one to its left. -/
def searchL {α : Type} [Inhabited α] (K : List α) (cft : α → Int) (hit : α → Bool) : Bool :=
  (decide (K.countP (fun x => decide (cft x < 0)) < K.length) && decide (cft K[K.countP (fun x => decide (cft x < 0))]! = 0)) ||
    hit (if K.countP (fun x => decide (cft x < 0)) = 0 then K[0]! else K[K.countP (fun x => decide (cft x < 0)) - 1]!)
theorem split_at {α : Type} (p : α → Bool) : ∀ (K : List α) (le : α → α → Prop), K.Pairwise le → (∀ a ∈ K, ∀ b ∈ K, le a b → p b = true → p a = true) →
    ∃ A B, K = A ++ B ∧ (∀ a ∈ A, p a = true) ∧ (∀ b ∈ B, p b = false) ∧ K.countP p = A.length
  | [], _, _, _ => ⟨[], [], rfl, by simp, by simp, rfl⟩
  | x :: r, le, hp, hm => by
    have hp2 := List.pairwise_cons.1 hp
    cases e : p x
    · have hall : ∀ b ∈ x :: r, p b = false := fun b hb => by
        rcases List.mem_cons.1 hb with rfl | hb
        · exact e
        · cases e2 : p b
          · rfl
          · have := hm x (by simp) b (by simp [hb]) (hp2.1 b hb) e2
            rw [e] at this; cases this
      exact ⟨[], x :: r, rfl, by simp, hall, List.countP_eq_zero.2 (fun b hb => by rw [hall b hb]; simp)⟩
    · obtain ⟨A, B, e1, h1, h2, h3⟩ := split_at p r le hp2.2 (fun a ha b hb => hm a (by simp [ha]) b (by simp [hb]))
      refine ⟨x :: A, B, by rw [e1]; rfl, fun a ha => ?_, h2, by rw [List.countP_cons_of_pos e, h3]; rfl⟩
      rcases List.mem_cons.1 ha with rfl | ha
      · exact e
      · exact h1 a ha
theorem search_finds {α : Type} [Inhabited α] (K : List α) (cft : α → Int) (hit : α → Bool) (sub : α → α → Bool) (le : α → α → Prop) (hne : K ≠ []) (hp : K.Pairwise le) (ha : K.Pairwise (fun a b => sub a b = false))
    (hm : ∀ a ∈ K, ∀ b ∈ K, le a b → cft b < 0 → cft a < 0) (hm0 : ∀ a ∈ K, ∀ b ∈ K, le a b → cft b ≤ 0 → cft a ≤ 0)
    (h1 : ∀ a ∈ K, hit a = true → cft a ≤ 0) (h2 : ∀ a ∈ K, cft a = 0 → hit a = true) (h3 : ∀ a ∈ K, ∀ b ∈ K, le a b → cft b ≤ 0 → hit a = true → sub a b = true) :
    searchL K cft hit = true ↔ ∃ k ∈ K, hit k = true := by
  obtain ⟨A, B, e, hA, hB, hc⟩ := split_at (fun x => decide (cft x < 0)) K le hp (fun a ha b hb hl hd => by
    simp only [decide_eq_true_eq] at hd ⊢; exact hm a ha b hb hl hd)
  unfold searchL
  rw [hc]
  simp only [decide_eq_true_eq, decide_eq_false_iff_not] at hA hB
  have hget : ∀ i (h : i < K.length), K[i]! ∈ K := fun i h => by rw [getElem!_pos K i h]; exact List.getElem_mem h
  constructor
  · intro h
    rw [Bool.or_eq_true, Bool.and_eq_true, decide_eq_true_eq, decide_eq_true_eq] at h
    rcases h with ⟨hlt, h0⟩ | h
    · exact ⟨_, hget _ hlt, h2 _ (hget _ hlt) h0⟩
    · refine ⟨_, ?_, h⟩
      split
      · exact hget 0 (List.length_pos_iff.2 hne)
      · have : A.length ≤ K.length := by rw [e, List.length_append]; omega
        exact hget _ (by omega)
  · rintro ⟨k, hk, hh⟩
    rw [Bool.or_eq_true, Bool.and_eq_true, decide_eq_true_eq, decide_eq_true_eq]
    have hk2 := hk
    rw [e, List.mem_append] at hk2
    rcases hk2 with hkA | hkB
    · right
      have hn0 : A ≠ [] := List.ne_nil_of_mem hkA
      have hpos := List.length_pos_iff.2 hn0
      rw [if_neg (by omega)]
      have hlast : K[A.length - 1]! = A.getLast hn0 := by
        rw [getElem!_pos K _ (by rw [e, List.length_append]; omega)]
        simp only [e]
        rw [List.getElem_append_left (by omega), List.getLast_eq_getElem]
      rw [hlast]
      have e2 : A = A.dropLast ++ [A.getLast hn0] := (List.dropLast_concat_getLast hn0).symm
      rw [e2, List.mem_append] at hkA
      rcases hkA with hkA | hkA
      · exfalso
        have hpK : (k : α) ∈ A.dropLast := hkA
        have hq : (A.dropLast ++ [A.getLast hn0]).Pairwise le := by rw [← e2]; rw [e] at hp; exact (List.pairwise_append.1 hp).1
        have hq2 : (A.dropLast ++ [A.getLast hn0]).Pairwise (fun a b => sub a b = false) := by rw [← e2]; rw [e] at ha; exact (List.pairwise_append.1 ha).1
        have l1 := (List.pairwise_append.1 hq).2.2 k hpK (A.getLast hn0) (by simp)
        have l2 := (List.pairwise_append.1 hq2).2.2 k hpK (A.getLast hn0) (by simp)
        have hmem : A.getLast hn0 ∈ K := by rw [e]; exact List.mem_append_left _ (List.getLast_mem hn0)
        have := hA _ (List.getLast_mem hn0)
        rw [h3 k hk _ hmem l1 (by omega) hh] at l2
        cases l2
      · have : k = A.getLast hn0 := by simpa using hkA
        rw [← this]; exact hh
    · left
      have hle := h1 k hk hh
      have hnk := hB k hkB
      have hk0 : cft k = 0 := by omega
      cases B with
      | nil => cases hkB
      | cons b B' =>
        have hlen : A.length < K.length := by rw [e, List.length_append, List.length_cons]; omega
        refine ⟨hlen, ?_⟩
        have hb : K[A.length]! = b := by
          rw [getElem!_pos K _ hlen]
          simp only [e]
          rw [List.getElem_append_right (by omega)]
          simp
        rw [hb]
        have hbK : b ∈ K := by rw [e]; simp
        have hnb := hB b (by simp)
        rcases List.mem_cons.1 hkB with rfl | hkB
        · exact hk0
        · rw [e] at hp
          have := (List.pairwise_cons.1 (List.pairwise_append.1 hp).2.1).1 k hkB
          have := hm0 b hbK k hk this (by omega)
          omega
/-- Sorted, pruned and searched: one is found just where one of all hits. -/
theorem found_iff {α : Type} [Inhabited α] (L : List α) (cft : α → Int) (hit : α → Bool) (sub : α → α → Bool) (le : α → α → Prop) (hne : L ≠ []) (hp : L.Pairwise le)
    (hr : ∀ a ∈ L, sub a a = true) (hI : ∀ a ∈ L, ∀ b ∈ L, ∀ c ∈ L, le a b → le b c → sub a c = true → sub a b = true)
    (hm : ∀ a ∈ L, ∀ b ∈ L, le a b → cft b < 0 → cft a < 0) (hm0 : ∀ a ∈ L, ∀ b ∈ L, le a b → cft b ≤ 0 → cft a ≤ 0)
    (h1 : ∀ a ∈ L, hit a = true → cft a ≤ 0) (h2 : ∀ a ∈ L, cft a = 0 → hit a = true) (h3 : ∀ a ∈ L, ∀ b ∈ L, le a b → cft b ≤ 0 → hit a = true → sub a b = true)
    (h4 : ∀ a ∈ L, ∀ b ∈ L, sub a b = true → hit b = true → hit a = true) :
    searchL (prune sub L) cft hit = true ↔ ∃ k ∈ L, hit k = true := by
  have hs := (prune_sublist sub L).subset
  rw [search_finds (prune sub L) cft hit sub le (fun e => hne ((prune_nil sub L).1 e)) (hp.sublist (prune_sublist sub L)) (prune_apart sub le L hp hI)
    (fun a ha b hb => hm a (hs ha) b (hs hb)) (fun a ha b hb => hm0 a (hs ha) b (hs hb)) (fun a ha => h1 a (hs ha)) (fun a ha => h2 a (hs ha)) (fun a ha b hb => h3 a (hs ha) b (hs hb))]
  constructor
  · rintro ⟨k, hk, h⟩
    exact ⟨k, hs hk, h⟩
  · rintro ⟨k, hk, h⟩
    obtain ⟨y, hy, hyk⟩ := prune_covers sub L hr k hk
    exact ⟨y, hy, h4 y (hs hy) k hk hyk h⟩
theorem prune_small {α : Type} (sub : α → α → Bool) (d : Array α) (h : d.size < 2) : prune sub d.toList = d.toList := by
  obtain ⟨l⟩ := d
  match l, h with
  | [], _ => rfl
  | [x], _ => rfl
  | x :: y :: r, h => simp at h; omega
end Go.Proofs.YtdinnpjplgkffaaGreatDoor
