/-
  Sets of names: their order, what is asked of them, a set made. No condition.
-/
import Derived.Test.YtdinnpjplgkffaaGreatDoorS2
import Derived.Test.YtdinnpjplgkffaaGreatDoorPDns
namespace Go.Proofs.YtdinnpjplgkffaaGreatDoor
open Go.ChangeShapes Go.WideShapes Go.ChangeAt Go.RowKit

theorem grow_of {w w' : World} (h : Below w.heap.size w w') (hd : w'.drawn = w.drawn) : ∃ os, w' = Go.Sort.grow w os := by
  refine ⟨w'.heap.extract w.heap.size w'.heap.size, ?_⟩
  obtain ⟨h1, h2, h3, h4, h5⟩ := h
  have e : w'.heap = w.heap ++ w'.heap.extract w.heap.size w'.heap.size := by
    apply Array.ext_getElem?
    intro i
    by_cases hi : i < w.heap.size
    · rw [Array.getElem?_append_left hi]; exact h5 i hi
    · rw [Array.getElem?_append_right (by omega), Array.getElem?_extract]
      by_cases h6 : i < w'.heap.size
      · rw [if_pos (by omega), show w.heap.size + (i - w.heap.size) = i by omega]
      · rw [if_neg (by omega), Array.getElem?_eq_none (by omega)]
  cases w
  cases w'
  simp only [Go.Sort.grow] at *
  subst h1 h2 h3 hd
  rw [← e]

/-- A text that is not nothing. -/
def StrEl : Type := {s : ByteArray // 0 < s.size ∧ s.size ≤ 2147483647}
def StrEl.enc (x : StrEl) : Value := .string x.1
def StrEl.val (x : StrEl) : ByteArray := x.1
def StrEl.cf (x y : StrEl) : Int := dnsCmp (bytes x.1) (bytes y.1)
def StrEl.sub (x y : StrEl) : Bool := hasSufL (bytes x.1) (bytes y.1)
theorem cmpN_self (a : List Nat) : cmpN a a = 0 := (cmpN_zero a a).2 rfl
theorem cmpN_lt_trans {a b c : List Nat} (h : cmpN a b ≤ 0) (k : cmpN b c ≤ 0) : (cmpN b c < 0 → cmpN a c < 0) ∧ (cmpN a b < 0 → cmpN a c < 0) := by
  have hle := cmpN_trans a b c h k
  constructor
  · intro hlt
    rcases Int.lt_or_eq_of_le hle with h1 | h1
    · exact h1
    · rw [cmpN_zero] at h1
      subst h1
      have := cmpN_neg a b
      omega
  · intro hlt
    rcases Int.lt_or_eq_of_le hle with h1 | h1
    · exact h1
    · rw [cmpN_zero] at h1
      subst h1
      have := cmpN_neg a b
      omega
theorem StrEl.swo : Go.Sort.SWO (Go.Proofs.ltOf StrEl.cf) where
  irrefl x := by
    unfold Go.Proofs.ltOf StrEl.cf dnsCmp
    rw [cmpN_self]; rfl
  trans x y z h1 h2 := by
    unfold Go.Proofs.ltOf StrEl.cf dnsCmp at *
    simp only [decide_eq_true_eq] at *
    exact (cmpN_lt_trans (by omega) (by omega)).2 h1
  ntrans x y z h1 h2 := by
    unfold Go.Proofs.ltOf StrEl.cf dnsCmp at *
    simp only [decide_eq_false_iff_not] at *
    have a1 := cmpN_neg (key (bytes x.1)) (key (bytes y.1))
    have a2 := cmpN_neg (key (bytes y.1)) (key (bytes z.1))
    have a3 := cmpN_neg (key (bytes x.1)) (key (bytes z.1))
    have := cmpN_trans (key (bytes z.1)) (key (bytes y.1)) (key (bytes x.1)) (by omega) (by omega)
    omega
theorem StrEl.one : Go.Proofs.OneCell StrEl.enc := fun _ => rfl
theorem StrEl.cmp_any (w0 W : World) (_ : Below w0.heap.size w0 W) (x y : StrEl) :
    Calls Tryz.prog 57 #[x.enc, y.enc] W fun e w' => e = .returned (.int .i64 (StrEl.cf x y)) ∧ ∃ q os, w' = Go.Sort.grow (W.drewN q) os :=
  (dnsCompare_grow x.1 y.1 x.2.2 y.2.2 W).mono fun _ _ ⟨h1, h2, h3⟩ => ⟨h1, 0, (grow_of h2 h3).imp fun _ e => e⟩
theorem StrEl.sub_any (w0 W : World) (_ : Below w0.heap.size w0 W) (x y : StrEl) :
    Calls Tryz.prog 58 #[x.enc, y.enc] W (Ret (.bool (StrEl.sub x y)) W) :=
  hasSuffix_any x.1 y.1 x.2.2 y.2.2 x.2.1 W
theorem sapS_any {w0 : World} [Inhabited StrEl] (wb : World) (c blk off cap : Nat) (d : Array StrEl) (w : World) (hR : RowP StrEl.enc w0 wb c blk off cap d w) (hblk : w0.heap.size ≤ blk) (hc0 : w0.heap.size ≤ c) (hne : c ≠ blk) (hsz : d.size ≤ 2147483647) (hcap : d.size ≤ cap) :
    Calls Tryz.prog 56 #[.pointer (some ⟨c, 0, none⟩), .func (.func 57) #[] #[], .func (.func 58) #[] #[]] w (SapPost StrEl.enc StrEl.cf StrEl.sub w0 wb c blk off cap d) :=
  sap_any StrEl.enc StrEl.one StrEl.cf StrEl.swo StrEl.sub w0 (StrEl.cmp_any w0) (StrEl.sub_any w0) wb c blk off cap d w hR hblk hc0 hne hsz hcap
def NoneE (w : World) (e : Ending) (w' : World) : Prop := e = .returned (.tuple #[]) ∧ w = w'
set_option maxHeartbeats 1000000 in
/-- A set of nothing. -/
theorem sap_nil (c : Nat) (A : Option Addr) (n cap : Nat) (hn : n < 2) (w : World) (hc : w.cell? ⟨c, 0, none⟩ = some (.slice A n cap)) :
    Calls Tryz.prog 56 #[.pointer (some ⟨c, 0, none⟩), .func (.func 57) #[] #[], .func (.func 58) #[] #[]] w (NoneE w) := by
  have F : Hid (NoneE w (.returned (.tuple #[])) w) := ⟨rfl, rfl⟩
  go_enter Tryz.func56, Tryz.ntmps56
  go_wp2
  go_end0
  exact F.out

/-! ### A SET MADE -/
/-- A text that may stand in a set. -/
def IsS (x : ByteArray) : Prop := 0 < x.size ∧ x.size ≤ 2147483647
theorem pmap_str : ∀ (L : List ByteArray), (∀ p ∈ L, IsS p) → ∃ l : List StrEl, l.map StrEl.val = L
  | [], _ => ⟨[], rfl⟩
  | p :: r, h => by
    obtain ⟨l, e⟩ := pmap_str r fun q hq => h q (by simp [hq])
    obtain ⟨x, hx⟩ : ∃ x : StrEl, x.val = p := ⟨⟨p, (h p (by simp)).1, (h p (by simp)).2⟩, rfl⟩
    exact ⟨x :: l, by rw [List.map_cons, hx, e]⟩
theorem sorted_pairwise {α : Type} [Inhabited α] (cf : α → α → Int) (d : Array α) (h : Go.Sort.SortedIn (Go.Proofs.ltOf cf) 0 d.size d) : d.toList.Pairwise (fun a b => 0 ≤ cf b a) := by
  rw [List.pairwise_iff_getElem]
  intro i j hi hj hij
  have := h i j (Nat.zero_le _) hij (by simpa using hj)
  rw [getElem!_pos d j (by simpa using hj), getElem!_pos d i (by simpa using hi)] at this
  unfold Go.Proofs.ltOf at this
  simp only [decide_eq_false_iff_not] at this
  simp only [Array.getElem_toList]
  omega
/-- Those of bs that no other one covers, in their order. -/
def PrunedOf (bs ks : List ByteArray) : Prop := ∃ l : List StrEl, (l.map StrEl.val).Perm bs ∧ l.Pairwise (fun a b => 0 ≤ StrEl.cf b a) ∧ ks = (prune StrEl.sub l).map StrEl.val
/-- A set of texts, sorted and pruned, that was made of L. -/
def SetS (w0 : World) (c blk : Nat) (L : List ByteArray) (W : World) : Prop :=
  ∃ (_ : Inhabited StrEl) (off cap : Nat) (d : Array StrEl) (wb : World), (d.toList.map StrEl.val).Perm L ∧ d.toList.Pairwise (fun a b => 0 ≤ StrEl.cf b a) ∧ RowP StrEl.enc w0 wb c blk off cap (prune StrEl.sub d.toList).toArray W ∧ w0.heap.size ≤ blk ∧ c ≠ blk ∧ d.size ≤ 2147483647 ∧ 0 < d.size
theorem SetS.next {w0 W W2 : World} {c blk : Nat} {L : List ByteArray} (h : SetS w0 c blk L W) (k : Below W.heap.size W W2) : SetS w0 c blk L W2 := by
  obtain ⟨i, off, cap, d, wb, h1, h2, h3, h4⟩ := h
  exact ⟨i, off, cap, d, wb, h1, h2, h3.next k, h4⟩
/-- A set that is about to be sorted. -/
structure FreshS (w : World) (v : Value) (L : List ByteArray) (W : World) (c g cap : Nat) (d : Array StrEl) [Inhabited StrEl] : Prop where
  hv : v = .slice (some ⟨g, 0, none⟩) L.length cap
  hd : d.toList.map StrEl.val = L
  hcap : d.size ≤ cap
  hg : w.heap.size ≤ g
  hc : w.heap.size ≤ c
  hne : c ≠ g
  row : RowP StrEl.enc w W c g 0 cap d W
theorem setS_start {w W : World} {v : Value} {L : List ByteArray} (T : TypeId) (hown : W.ownsRow w.heap.size 9 1 v L.length (strs L)) (hne : L ≠ []) (hL : ∀ p ∈ L, IsS p) (hold : Below w.heap.size w W) :
    ∃ (g cap : Nat) (d : Array StrEl) (_ : Inhabited StrEl), FreshS w v L (W.alloc (.cells #[v] T)) W.heap.size g cap d := by
  obtain ⟨l, e⟩ := pmap_str L hL
  have hlen : l.length = L.length := by rw [← e, List.length_map]
  cases l with
  | nil => rw [← e] at hne; exact absurd rfl hne
  | cons x0 l0 =>
    obtain ⟨h1, h2⟩ := hown
    rcases h2 with ⟨-, h0⟩ | ⟨g, cap, cur, rfl, hbase, hh, hnc, hcm, hsz, htk⟩
    · exact absurd (List.length_eq_zero_iff.1 h0) hne
    · have hgl : g < W.heap.size := blk_lt hh
      have hone := Below.one W (.cells #[.slice (some ⟨g, 0, none⟩) L.length cap] T)
      let i0 : Inhabited StrEl := ⟨x0⟩
      refine ⟨g, cap, (x0 :: l0).toArray, i0, ⟨rfl, by simpa using e, by simpa [hlen] using hnc, hbase, hold.size, by omega, ?_⟩⟩
      refine ⟨fun j hj => ?_, by simp; omega, hold.trans (hone.mono hold.size), ?_, by simp, Kept.refl _ _ _⟩
      · have hj2 : j < (x0 :: l0).length := by simpa using hj
        rw [Nat.zero_add, hone.cell (p := ⟨g, j, none⟩) hgl, hone.frozen (p := ⟨g, j, none⟩) hgl, blk_cell hh]
        refine ⟨?_, by simp [World.frozen?, hh]⟩
        have hjL : j < L.length := by omega
        have e3 : (strs L)[j]? = some (.string L[j]) := strs_get hjL
        rw [← htk, List.getElem?_take, if_pos (by omega)] at e3
        have e4 : L[j] = ((x0 :: l0)[j]).val := by
          have : (x0 :: l0).map StrEl.val = L := e
          have e5 := List.getElem_of_eq this.symm hjL
          rw [e5, List.getElem_map]
        rw [getElem!_pos _ j hj]
        simp only [Array.getElem?_toList] at e3
        rw [e3, e4]
        simp only [List.getElem_toArray]
        rfl
      · rw [blk_cell (blk_new W _)]
        simp [hlen]
theorem setS_done {w W W2 : World} {v : Value} {L : List ByteArray} {c g cap : Nat} {d : Array StrEl} {i : Inhabited StrEl} (h : FreshS w v L W c g cap d) (hL : L.length ≤ 2147483647) (hne : L ≠ [])
    (hp : ∃ d' : Array StrEl, Go.Sort.PermIn 0 d.size d d' ∧ Go.Sort.SortedIn (Go.Proofs.ltOf StrEl.cf) 0 d.size d' ∧ RowP StrEl.enc w W c g 0 cap (prune StrEl.sub d'.toList).toArray W2) : SetS w c g L W2 := by
  obtain ⟨d', h1, h2, h3⟩ := hp
  have hds : d.size = L.length := by rw [← h.hd, List.length_map, Array.length_toList]
  have hpe : d'.toList.Perm d.toList := by
    have hs := h1.1
    have := h1.2.2
    have e1 : (d'.extract 0 d.size).toList = d'.toList := by rw [← hs]; simp
    have e2 : (d.extract 0 d.size).toList = d.toList := by simp
    rw [e1, e2] at this
    exact this
  refine ⟨i, 0, cap, d', W, ?_, sorted_pairwise StrEl.cf d' (by rw [h1.1]; exact h2), h3, h.hg, h.hne, by rw [h1.1]; omega, by rw [h1.1, hds]; exact List.length_pos_iff.2 hne⟩
  rw [← h.hd]
  exact hpe.map _
/-- What a set's row is read as. -/
theorem add_mk (b o j : Nat) : (⟨b, o, none⟩ : Addr).add j = ⟨b, o + j, none⟩ := by
  unfold Addr.add
  simp
theorem SetS.rd {w0 W : World} {c blk : Nat} {L : List ByteArray} (h : SetS w0 c blk L W) : ∃ off n cap ks, W.cell? ⟨c, 0, none⟩ = some (.slice (some ⟨blk, off, none⟩) n cap) ∧ n = ks.length ∧ Rd W (some ⟨blk, off, none⟩) (strs ks) ∧ PrunedOf L ks ∧ Below w0.heap.size w0 W := by
  obtain ⟨i, off, cap, d, wb, h1, h2, h3, h4⟩ := h
  refine ⟨off, _, cap, (prune StrEl.sub d.toList).map StrEl.val, h3.cell, by simp, fun j v hj => ?_, ⟨d.toList, h1, h2, rfl⟩, h3.old⟩
  simp only [strs, List.map_map] at hj
  rw [List.getElem?_map] at hj
  obtain ⟨x, hx, rfl⟩ := Option.map_eq_some_iff.1 hj
  have hlt : j < (prune StrEl.sub d.toList).length := (List.getElem?_eq_some_iff.1 hx).1
  have := h3.hH j (by simpa using hlt)
  refine ⟨_, rfl, ?_, ?_⟩
  · exact h3.hb
  · rw [add_mk]
    refine this.1.trans ?_
    rw [getElem!_pos _ j (by simpa using hlt)]
    rw [List.getElem?_eq_getElem hlt] at hx
    rw [List.getElem_toArray, Option.some.inj hx]
    rfl
end Go.Proofs.YtdinnpjplgkffaaGreatDoor
