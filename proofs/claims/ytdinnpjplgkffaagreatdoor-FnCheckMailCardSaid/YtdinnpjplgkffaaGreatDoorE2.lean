/-
  What is found in a set of names; walk: query. No condition.
-/
import Derived.Test.YtdinnpjplgkffaaGreatDoorE1
import Derived.Test.YtdinnpjplgkffaaGreatDoorPValid
namespace Go.Proofs.YtdinnpjplgkffaaGreatDoor
open Go.ChangeShapes Go.WideShapes Go.ChangeAt Go.RowKit

theorem StrEl.ne (x : StrEl) : bytes x.1 ≠ [] := fun e => by
  have h := x.2.1
  rw [← bytes_length, e] at h
  cases h
theorem StrEl.sub_iff {x y : StrEl} (hx : NameBytes (bytes x.1)) (hy : NameBytes (bytes y.1)) : StrEl.sub x y = true ↔ KSub (key (bytes x.1)) (key (bytes y.1)) :=
  suf_key hx hy x.ne
theorem StrEl.le_of {x y : StrEl} (h : 0 ≤ StrEl.cf y x) : cmpN (key (bytes x.1)) (key (bytes y.1)) ≤ 0 := by
  unfold StrEl.cf dnsCmp at h
  have := cmpN_neg (key (bytes x.1)) (key (bytes y.1))
  omega
/-- A text that may be asked for: dots, letters, digits, hyphens, at least one. -/
def AskT (x : ByteArray) : Prop := NameBytes (bytes x) ∧ 0 < x.size ∧ x.size ≤ 2147483647
theorem AskT.of {x : ByteArray} (hx : nameOk (bytes x) = true) : AskT x := by
  have h1 := nameOk_pos hx
  have h2 := nameOk_size hx
  rw [bytes_length] at h1 h2
  exact ⟨nameOk_bytes hx, h1, by omega⟩
/-- Whether a name meets one of some constraints. -/
def MetD (L : List ByteArray) (x : ByteArray) : Prop := ∃ y ∈ L, y.size = 0 ∨ hasSufL (bytes y) (bytes x) = true
def NamesE (L : List ByteArray) : Prop := ∀ y ∈ L, y.size = 0 ∨ nameOk (bytes y) = true
/-- Constraints of dots, letters, digits and hyphens. -/
def TextsE (L : List ByteArray) : Prop := ∀ y ∈ L, y.size = 0 ∨ (NameBytes (bytes y) ∧ y.size ≤ 2147483647)
theorem NamesE.texts {L : List ByteArray} (h : NamesE L) : TextsE L := fun y hy => (h y hy).imp id fun e => ⟨nameOk_bytes e, by have := nameOk_size e; rw [bytes_length] at this; omega⟩
set_option maxHeartbeats 1000000 in
theorem SetS.search {w0 W : World} {c blk : Nat} {L : List ByteArray} (h : SetS w0 c blk L W) (hL : TextsE L) (x : ByteArray) (hx : AskT x) (b : Bool) (hb : b = true ↔ MetD L x) :
    Calls Tryz.prog 122 #[.pointer (some ⟨c, 0, none⟩), .string x, .func (.func 57) #[] #[], .func (.func 58) #[] #[]] W (FoundPost b W) := by
  obtain ⟨i, off, cap, d, wb, h1, hp, h3, h4, h5, h6, h7⟩ := h
  have hxs : x.size ≤ 2147483647 := hx.2.2
  have hN : ∀ y ∈ d.toList, NameBytes (bytes y.1) := fun y hy => by
    rcases hL y.val (h1.subset (List.mem_map.2 ⟨y, hy, rfl⟩)) with e | e
    · have := y.2.1
      unfold StrEl.val at e
      omega
    · exact e.1
  have hps := prune_sublist StrEl.sub d.toList
  have hK : (prune StrEl.sub d.toList) ≠ [] := fun e => by
    have := (prune_nil StrEl.sub d.toList).1 e
    rw [← Array.length_toList, this] at h7
    cases h7
  have hcmp : ∀ u v : StrEl, 0 ≤ StrEl.cf v u → (dnsCmp (bytes v.1) (bytes x) ≤ 0 → dnsCmp (bytes u.1) (bytes x) ≤ 0) ∧ (dnsCmp (bytes v.1) (bytes x) < 0 → dnsCmp (bytes u.1) (bytes x) < 0) := fun u v h => by
    have o := StrEl.le_of h
    unfold dnsCmp
    exact ⟨fun k => cmpN_trans _ _ _ o k, fun k => (cmpN_lt_trans o (by omega)).1 k⟩
  have hm2 : (prune StrEl.sub d.toList).Pairwise (fun a b => 0 ≤ StrEl.cf b a) := hp.sublist hps
  have hmono : ∀ a b, a ≤ b → b < (prune StrEl.sub d.toList).toArray.size → dnsCmp (bytes (prune StrEl.sub d.toList).toArray[b]!.1) (bytes x) < 0 → dnsCmp (bytes (prune StrEl.sub d.toList).toArray[a]!.1) (bytes x) < 0 := fun a b hab hbl hlt => by
    rcases Nat.lt_or_ge a b with e | e
    · rw [getElem!_pos _ b hbl] at hlt
      rw [getElem!_pos _ a (by omega)]
      have := List.pairwise_iff_getElem.1 hm2 a b (by simpa using (Nat.lt_trans e hbl)) (by simpa using hbl) e
      exact (hcmp _ _ this).2 hlt
    · rw [show a = b by omega]; exact hlt
  have hs := search_any StrEl.enc StrEl.one (.string x) (fun y : StrEl => dnsCmp (bytes y.1) (bytes x)) (fun y => hasSufL (bytes y.1) (bytes x)) w0
    (fun W _ y => (dnsCompare_grow y.1 x y.2.2 hxs W).mono fun _ _ ⟨h1, h2, h3⟩ => ⟨h1, 0, (grow_of h2 h3).imp fun _ e => e⟩)
    (fun W _ y => hasSuffix_any y.1 x y.2.2 hxs y.2.1 W)
    wb c blk off cap _ W h3 h4 h5 (by have := hps.length_le; simp at this ⊢; omega) (by simpa using List.length_pos_iff.2 hK) hmono
  refine hs.mono fun e w' ⟨hf, _⟩ => ?_
  have hit : ∀ y ∈ d.toList, hasSufL (bytes y.1) (bytes x) = true ↔ KSub (key (bytes y.1)) (key (bytes x)) := fun y hy => suf_key (hN y hy) hx.1 y.ne
  have key2 := found_iff d.toList (fun y : StrEl => dnsCmp (bytes y.1) (bytes x)) (fun y => hasSufL (bytes y.1) (bytes x)) StrEl.sub (fun a b => 0 ≤ StrEl.cf b a) (fun e => by rw [← Array.length_toList, e] at h7; cases h7) hp
    (fun u hu => (StrEl.sub_iff (hN u hu) (hN u hu)).2 (KSub.refl _))
    (fun u hu v hv z hz huv hvz huz => (StrEl.sub_iff (hN u hu) (hN v hv)).2 (((StrEl.sub_iff (hN u hu) (hN z hz)).1 huz).between (StrEl.le_of huv) (StrEl.le_of hvz)))
    (fun u _ v _ huv hlt => (hcmp u v huv).2 hlt) (fun u _ v _ huv hlt => (hcmp u v huv).1 hlt)
    (fun u hu h => ((hit u hu).1 h).le)
    (fun u hu h => (hit u hu).2 (by
      unfold dnsCmp at h
      rw [(cmpN_zero _ _).1 h]; exact KSub.refl _))
    (fun u hu v hv huv hlt h => (StrEl.sub_iff (hN u hu) (hN v hv)).2 (((hit u hu).1 h).between (StrEl.le_of huv) hlt))
    (fun u hu v hv huv h => (hit u hu).2 (((StrEl.sub_iff (hN u hu) (hN v hv)).1 huv).trans ((hit v hv).1 h)))
  have e1 : searchL (prune StrEl.sub d.toList).toArray.toList (fun y : StrEl => dnsCmp (bytes y.1) (bytes x)) (fun y => hasSufL (bytes y.1) (bytes x)) = b := by
    rw [Bool.eq_iff_iff, hb]
    refine key2.trans ⟨fun ⟨y, hy, hin⟩ => ⟨y.val, h1.subset (List.mem_map.2 ⟨y, hy, rfl⟩), .inr hin⟩, fun ⟨p, hp, hin⟩ => ?_⟩
    obtain ⟨y, hy, rfl⟩ := List.mem_map.1 (h1.symm.subset hp)
    rcases hin with e | e
    · have := y.2.1
      unfold StrEl.val at e
      omega
    · exact ⟨y, hy, e⟩
  rw [e1] at hf
  exact hf

/-- The constraints of names in their block. -/
def DnsC (w0 : World) (L : List ByteArray) (g : Nat) (W : World) : Prop :=
  ((∃ y ∈ L, y.size = 0) ∧ W.cell? ⟨g, 0, none⟩ = some (.bool true)) ∨ ∃ c blk pm, W.cell? ⟨g, 0, none⟩ = some (.bool false) ∧ W.cell? ⟨g, 1, none⟩ = some (.bool pm) ∧ W.cell? ⟨g, 2, none⟩ = some (.pointer (some ⟨c, 0, none⟩)) ∧ SetS w0 c blk L W
theorem DnsC.next {w0 W W2 : World} {L : List ByteArray} {g : Nat} (h : DnsC w0 L g W) (k : Below W.heap.size W W2) : DnsC w0 L g W2 := by
  have keep : ∀ j v, W.cell? ⟨g, j, none⟩ = some v → W2.cell? ⟨g, j, none⟩ = some v := fun j v e => (k.cell (p := ⟨g, j, none⟩) (World.block_lt_of_cell? _ _ e)).trans e
  rcases h with ⟨h, e⟩ | ⟨c, blk, pm, e0, e1, e2, hs⟩
  · exact .inl ⟨h, keep _ _ e⟩
  · exact .inr ⟨c, blk, pm, keep _ _ e0, keep _ _ e1, keep _ _ e2, hs.next k⟩
theorem ask_star {x : ByteArray} (hx : AskT x) : ∃ h : 0 < x.size, ((x[0]'h).toNat : Int) ≠ 42 := by
  have h0 := hx.2.1
  refine ⟨h0, ?_⟩
  have hb := hx.1
  have hg := bytes_get x 0 h0
  have hm : x[0]'h0 ∈ bytes x := List.mem_of_getElem? hg
  rcases hb _ hm with e | e
  · rw [e]; decide
  · intro h
    have h2 : (x[0]'h0).toNat = 42 := by omega
    rw [h2] at e
    exact absurd e (by decide)
set_option maxHeartbeats 1000000 in
theorem query_ask (g : Nat) (w0 W : World) (L : List ByteArray) (hD : DnsC w0 L g W) (hL : TextsE L) (x : ByteArray) (hx : AskT x) (b : Bool) (hb : b = true ↔ MetD L x) :
    Calls Tryz.prog 121 #[.pointer (some ⟨g, 0, none⟩), .string x] W (FoundPost b W) := by
  rcases hD with ⟨⟨y, hy, e⟩, c0⟩ | ⟨c, blk, pm, c0, c1, c2, hs⟩
  · have F : Hid (b = true) := hb.2 ⟨y, hy, .inl e⟩
    clear hy e hb hL hx
    go_enter Tryz.func121, Tryz.ntmps121
    go_wp2
    go_ret2
    exact ⟨_, ret_w (by rw [F.out]; rfl), Below.refl _ _⟩
  · have HS := Lib.hid (hs.search hL x hx b hb)
    have HD : Hid (DnsC w0 L g W) := .inr ⟨c, blk, pm, c0, c1, c2, hs⟩
    obtain ⟨h0, hne⟩ := ask_star hx
    have h1 : (((x[0]'h0).toNat : Int) == 42) = false := by rw [beq_eq_false_iff_ne]; exact hne
    have hxs : x.size ≤ 2147483647 := hx.2.2
    have k1 := fun W2 (k : Below W.heap.size W W2) => (k.cell (p := ⟨g, 1, none⟩) (World.block_lt_of_cell? _ _ c1)).trans c1
    have K1 := Lib.hid k1
    clear hs hb hL hx hne k1
    cases b
    all_goals
      cases pm
      all_goals
        go_enter Tryz.func121, Tryz.ntmps121
        go_wp2_with fail
        refine HS.out.mono ?_
        rintro e w1 ⟨v, rfl, hb1⟩
        have d1 := K1.out w1 hb1
        have HB := Lib.hid hb1
        clear hb1 K1 HS c0 c1 c2 HD
        go_wp2
        go_ret2
        exact ⟨_, rfl, HB.out⟩
end Go.Proofs.YtdinnpjplgkffaaGreatDoor
