/-
  The plain law of FnPrune: those that are left stand apart, they are some of the given ones, and whatever met one of all meets one of these. No condition.
-/
import Derived.Test.YtdinnpjplgkffaaK1
import Derived.Test.YtdinnpjplgkffaaD4
namespace Go.Proofs.Ytdinnpjplgkffaa

theorem StrEl.ne (x : StrEl) : bytes x.1 ≠ [] := fun e => by
  have h := x.2.1
  rw [← bytes_length, e] at h
  cases h
theorem StrEl.sub_iff {x y : StrEl} (hx : nameOk (bytes x.1) = true) (hy : nameOk (bytes y.1) = true) : StrEl.sub x y = true ↔ KSub (key (bytes x.1)) (key (bytes y.1)) :=
  suf_key (nameOk_bytes hx) (nameOk_bytes hy) x.ne
theorem StrEl.le_of {x y : StrEl} (h : 0 ≤ StrEl.cf y x) : cmpN (key (bytes x.1)) (key (bytes y.1)) ≤ 0 := by
  unfold StrEl.cf dnsCmp at h
  have := cmpN_neg (key (bytes x.1)) (key (bytes y.1))
  omega
theorem PrunedOf.sub {bs ks : List ByteArray} (h : PrunedOf bs ks) : ∀ y ∈ ks, y ∈ bs := by
  obtain ⟨l, h1, -, rfl⟩ := h
  intro y hy
  obtain ⟨x, hx, rfl⟩ := List.mem_map.1 hy
  exact h1.subset (List.mem_map.2 ⟨x, (prune_sublist _ _).subset hx, rfl⟩)
theorem PrunedOf.none {bs ks : List ByteArray} (h : PrunedOf bs ks) : ks = [] ↔ bs = [] := by
  obtain ⟨l, h1, -, rfl⟩ := h
  rw [List.map_eq_nil_iff, prune_nil]
  constructor
  · rintro rfl
    exact List.Perm.nil_eq h1 |>.symm
  · rintro rfl
    have := h1.length_eq
    exact List.eq_nil_of_length_eq_zero (by simpa using this)
theorem PrunedOf.names {bs : List ByteArray} {l : List StrEl} (h1 : (l.map StrEl.val).Perm bs) (hb : ∀ y ∈ bs, nameOk (bytes y) = true) : ∀ x ∈ l, nameOk (bytes x.1) = true := fun x hx => hb _ (h1.subset (List.mem_map.2 ⟨x, hx, rfl⟩))
theorem PrunedOf.apart {bs ks : List ByteArray} (h : PrunedOf bs ks) (hb : ∀ y ∈ bs, nameOk (bytes y) = true) (i k : Nat) (hi : i < ks.length) (hk : k < ks.length) (hne : i ≠ k) : hasSufL (bytes ks[k]) (bytes ks[i]) = false := by
  obtain ⟨l, h1, h2, rfl⟩ := h
  have hN := PrunedOf.names h1 hb
  have hsub := prune_sublist StrEl.sub l
  have hA := prune_apart StrEl.sub (fun a b => 0 ≤ StrEl.cf b a) l h2 fun a ha b hb c hc hab hbc hac =>
    (StrEl.sub_iff (hN a ha) (hN b hb)).2 (((StrEl.sub_iff (hN a ha) (hN c hc)).1 hac).between (StrEl.le_of hab) (StrEl.le_of hbc))
  have hB := h2.sublist hsub
  rw [List.length_map] at hi hk
  rw [List.getElem_map, List.getElem_map]
  have ni := hN _ (hsub.subset (List.getElem_mem hi))
  have nk := hN _ (hsub.subset (List.getElem_mem hk))
  show StrEl.sub _ _ = false
  rcases Nat.lt_or_gt_of_ne hne with hlt | hlt
  · have a1 := List.pairwise_iff_getElem.1 hA i k hi hk hlt
    have b1 := List.pairwise_iff_getElem.1 hB i k hi hk hlt
    cases hs : StrEl.sub (prune StrEl.sub l)[k] (prune StrEl.sub l)[i]
    · rfl
    · exfalso
      have c1 := ((StrEl.sub_iff nk ni).1 hs).le
      unfold StrEl.cf dnsCmp at b1
      have e : cmpN (key (bytes (prune StrEl.sub l)[k].1)) (key (bytes (prune StrEl.sub l)[i].1)) = 0 := by omega
      rw [cmpN_zero] at e
      rw [(StrEl.sub_iff ni nk).2 (by rw [e]; exact KSub.refl _)] at a1
      cases a1
  · exact List.pairwise_iff_getElem.1 hA k i hk hi hlt
theorem saysD_ok {y x : ByteArray} (hy : nameOk (bytes y) = true) (hx : nameOk (bytes x) = true) : saysD y x = if hasSufL (bytes y) (bytes x) = true then 1 else 0 := dnsV_ok hy hx
theorem fnd_names {bs : List ByteArray} {x : ByteArray} (hb : ∀ y ∈ bs, nameOk (bytes y) = true) (hx : nameOk (bytes x) = true) (b : Bool) (hm : b = true ↔ ∃ y ∈ bs, hasSufL (bytes y) (bytes x) = true) : fnd (bs.map fun y => saysD y x) = if b = true then 1 else 0 := by
  have h1 : (1 : Int) ∈ (bs.map fun y => saysD y x) ↔ b = true := by
    rw [hm, List.mem_map]
    constructor
    · rintro ⟨y, hy, e⟩
      rw [saysD_ok (hb y hy) hx] at e
      refine ⟨y, hy, ?_⟩
      by_cases h : hasSufL (bytes y) (bytes x) = true
      · exact h
      · rw [if_neg h] at e; cases e
    · rintro ⟨y, hy, e⟩
      exact ⟨y, hy, by rw [saysD_ok (hb y hy) hx, if_pos e]⟩
  have h2 : ¬ (2 : Int) ∈ (bs.map fun y => saysD y x) := fun h => by
    obtain ⟨y, hy, e⟩ := List.mem_map.1 h
    rw [saysD_ok (hb y hy) hx] at e
    split at e <;> cases e
  unfold fnd
  rw [if_neg h2]
  by_cases h : b = true
  · rw [if_pos (h1.2 h), if_pos h]
  · rw [if_neg (fun e => h (h1.1 e)), if_neg h]
theorem PrunedOf.meets {bs ks : List ByteArray} (h : PrunedOf bs ks) (hb : ∀ y ∈ bs, nameOk (bytes y) = true) {x : ByteArray} (hx : nameOk (bytes x) = true) :
    (∃ y ∈ ks, hasSufL (bytes y) (bytes x) = true) ↔ ∃ y ∈ bs, hasSufL (bytes y) (bytes x) = true := by
  refine ⟨fun ⟨y, hy, e⟩ => ⟨y, h.sub y hy, e⟩, fun ⟨y, hy, e⟩ => ?_⟩
  obtain ⟨l, h1, h2, rfl⟩ := h
  have hN := PrunedOf.names h1 hb
  obtain ⟨z, hz, rfl⟩ := List.mem_map.1 (h1.symm.subset hy)
  obtain ⟨u, hu, hs⟩ := prune_covers StrEl.sub l (fun a ha => (StrEl.sub_iff (hN a ha) (hN a ha)).2 (KSub.refl _)) z hz
  have nu := hN u ((prune_sublist _ _).subset hu)
  have nz := hN z hz
  refine ⟨u.val, List.mem_map.2 ⟨u, hu, rfl⟩, ?_⟩
  exact (suf_key (nameOk_bytes nu) (nameOk_bytes hx) u.ne).2 (((StrEl.sub_iff nu nz).1 hs).trans ((suf_key (nameOk_bytes nz) (nameOk_bytes hx) z.ne).1 e))
theorem PrunedOf.fnd {bs ks : List ByteArray} (h : PrunedOf bs ks) (hb : ∀ y ∈ bs, nameOk (bytes y) = true) {x : ByteArray} (hx : nameOk (bytes x) = true) : fnd (ks.map fun y => saysD y x) = fnd (bs.map fun y => saysD y x) := by
  obtain ⟨b, hm⟩ : ∃ b : Bool, b = true ↔ ∃ y ∈ bs, hasSufL (bytes y) (bytes x) = true := by
    by_cases h : ∃ y ∈ bs, hasSufL (bytes y) (bytes x) = true
    · exact ⟨true, by simp [h]⟩
    · exact ⟨false, by simp [h]⟩
  rw [fnd_names hb hx b hm, fnd_names (fun y hy => hb y (h.sub y hy)) hx b (hm.trans (h.meets hb hx).symm)]
theorem nameL_ok {y : ByteArray} (h : nameL y = true) : nameOk (bytes y) = true := by
  unfold nameL at h
  rw [Bool.and_eq_true] at h
  exact h.1
theorem isS_name {y : ByteArray} (h : nameOk (bytes y) = true) : IsS y := by
  have h1 := nameOk_pos h
  have h2 := nameOk_size h
  rw [bytes_length] at h1 h2
  exact ⟨h1, by omega⟩
end Go.Proofs.Ytdinnpjplgkffaa
