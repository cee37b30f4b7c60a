/-
  Sets of networks: their order, what is asked of them, what a search finds. No condition.
-/
import Derived.Test.YtgaolfbbfdojjaaS3
import Derived.Test.YtgaolfbbfdojjaaN10
namespace Go.Proofs.Ytgaolfbbfdojjaa
open Go.ChangeShapes Go.WideShapes Go.ChangeAt Go.RowKit

/-- Whether an address lies in a network, reckoned. -/
def inB (ad ms s : List UInt8) : Bool := s.length == ad.length && (List.range s.length).all fun i => (s.getD i 0 &&& ms.getD i 0) == ad.getD i 0
theorem inB_iff {ad ms : List UInt8} (h : ms.length = ad.length) (s : List UInt8) : inB ad ms s = true ↔ InN ad ms s := by
  unfold inB InN
  rw [Bool.and_eq_true, beq_iff_eq, List.all_eq_true]
  refine and_congr_right fun e => ?_
  constructor
  · intro k i h1 h2 h3
    have := k i (List.mem_range.2 h1)
    rw [beq_iff_eq, List.getD, List.getD, List.getD, List.getElem?_eq_getElem h1, List.getElem?_eq_getElem h2, List.getElem?_eq_getElem h3] at this
    exact this
  · intro k i hi
    have h1 := List.mem_range.1 hi
    have h2 : i < ad.length := by omega
    have h3 : i < ms.length := by omega
    rw [beq_iff_eq, List.getD, List.getD, List.getD, List.getElem?_eq_getElem h1, List.getElem?_eq_getElem h2, List.getElem?_eq_getElem h3]
    exact k i h1 h2 h3
def subB (a b : List UInt8 × List UInt8) : Bool := inB a.1 a.2 b.1 && inB a.1 a.2 (lastL b.1 b.2)
theorem subB_iff {a b : List UInt8 × List UInt8} (h : a.2.length = a.1.length) : subB a b = true ↔ SubN a b := by
  unfold subB SubN
  rw [Bool.and_eq_true, inB_iff h, inB_iff h]

/-- A good network of m bytes that lies in w0. -/
def NetEl (w0 : World) (m : Nat) : Type := {p : Nat × NetA // NetP w0 p.1 p.2 ∧ NetGood p.2.ad p.2.ms ∧ p.2.ad.length = m ∧ m ≤ 16}
def encP (p : Nat × NetA) : Value := .pointer (some ⟨p.1, 0, none⟩)
def NetEl.pt {w0 : World} {m : Nat} (x : NetEl w0 m) : Nat × NetA := x.1
def NetEl.enc {w0 : World} {m : Nat} (x : NetEl w0 m) : Value := encP x.1
def NetEl.key {w0 : World} {m : Nat} (x : NetEl w0 m) : List UInt8 × List UInt8 := (x.1.2.ad, x.1.2.ms)
def NetEl.cf {w0 : World} {m : Nat} (x y : NetEl w0 m) : Int := netCmp x.key y.key
def NetEl.sub {w0 : World} {m : Nat} (x y : NetEl w0 m) : Bool := subB x.key y.key
theorem NetGood.toG {N : NetA} (h : NetGood N.ad N.ms) (a1 : N.ad.length ≤ 2147483647) : NetG N := ⟨a1, h.2.1, h.1, h.zero⟩
theorem NetEl.g {w0 : World} {m : Nat} (x : NetEl w0 m) : NetG x.1.2 := x.2.2.1.toG (by have h1 := x.2.2.2.1; have h2 := x.2.2.2.2; rw [h1]; exact Nat.le_trans h2 (by omega))
theorem netCmp_neg (a b : List UInt8 × List UInt8) : netCmp a b = - netCmp b a := by
  unfold netCmp
  have h1 := compareBytes_neg a.1 b.1
  have h2 := compareBytes_neg a.2 b.2
  by_cases h : Lib.compareBytes a.1 b.1 = 0
  · have h' : Lib.compareBytes b.1 a.1 = 0 := by omega
    rw [if_pos h, if_pos h']; exact h2
  · have h' : ¬ Lib.compareBytes b.1 a.1 = 0 := by omega
    rw [if_neg h, if_neg h']; exact h1
theorem netCmp_self (a : List UInt8 × List UInt8) : netCmp a a = 0 := by
  unfold netCmp
  rw [if_pos (compareBytes_self _), compareBytes_self]
theorem netCmp_trans (a b c : List UInt8 × List UInt8) (h : netCmp a b ≤ 0) (k : netCmp b c ≤ 0) : netCmp a c ≤ 0 ∧ (netCmp b c < 0 → netCmp a c < 0) ∧ (netCmp a b < 0 → netCmp a c < 0) := by
  obtain ⟨h1, h2⟩ := netCmp_le h
  obtain ⟨k1, k2⟩ := netCmp_le k
  obtain ⟨t1, t2, t3⟩ := compareBytes_le_trans a.1 b.1 c.1 h1 k1
  by_cases e1 : Lib.compareBytes a.1 b.1 = 0
  · have e1' := compareBytes_zero _ _ e1
    by_cases e2 : Lib.compareBytes b.1 c.1 = 0
    · have e2' := compareBytes_zero _ _ e2
      obtain ⟨s1, s2, s3⟩ := compareBytes_le_trans a.2 b.2 c.2 (h2 e1') (k2 e2')
      have e3 : Lib.compareBytes a.1 c.1 = 0 := by rw [e1', e2', compareBytes_self]
      unfold netCmp
      rw [if_pos e1, if_pos e2, if_pos e3]
      exact ⟨s1, s2, s3⟩
    · have e3 : Lib.compareBytes a.1 c.1 = Lib.compareBytes b.1 c.1 := by rw [e1']
      unfold netCmp
      rw [if_pos e1, if_neg e2, if_neg (by rw [e3]; exact e2)]
      omega
  · by_cases e3 : Lib.compareBytes a.1 c.1 = 0
    · omega
    · unfold netCmp
      rw [if_neg e1, if_neg e3]
      omega
theorem NetEl.swo {w0 : World} {m : Nat} : Go.Sort.SWO (Go.Proofs.ltOf (NetEl.cf (w0 := w0) (m := m))) where
  irrefl x := by
    unfold Go.Proofs.ltOf NetEl.cf
    rw [netCmp_self]; rfl
  trans x y z h1 h2 := by
    unfold Go.Proofs.ltOf NetEl.cf at *
    simp only [decide_eq_true_eq] at *
    exact (netCmp_trans x.key y.key z.key (by omega) (by omega)).2.2 h1
  ntrans x y z h1 h2 := by
    unfold Go.Proofs.ltOf NetEl.cf at *
    simp only [decide_eq_false_iff_not] at *
    have a1 := netCmp_neg x.key y.key
    have a2 := netCmp_neg y.key z.key
    have a3 := netCmp_neg x.key z.key
    have := (netCmp_trans z.key y.key x.key (by omega) (by omega)).1
    omega
theorem NetEl.one {w0 : World} {m : Nat} : Go.Proofs.OneCell (NetEl.enc (w0 := w0) (m := m)) := fun _ => rfl
theorem NetEl.cmp_any {w0 : World} {m : Nat} (W : World) (hW : Below w0.heap.size w0 W) (x y : NetEl w0 m) :
    Calls Try.prog 35 #[x.enc, y.enc] W fun e w' => e = .returned (.int .i64 (NetEl.cf x y)) ∧ ∃ q os, w' = Go.Sort.grow (W.drewN q) os :=
  (netCompare_any x.1.1 y.1.1 x.1.2 y.1.2 W (x.2.1.below hW) (y.2.1.below hW)).mono fun _ _ ⟨h1, q, h2⟩ => ⟨h1, q, #[], by rw [Go.Sort.grow_empty]; exact h2⟩
theorem NetEl.sub_any {w0 : World} {m : Nat} (W : World) (hW : Below w0.heap.size w0 W) (x y : NetEl w0 m) :
    Calls Try.prog 36 #[x.enc, y.enc] W (Ret (.bool (NetEl.sub x y)) W) :=
  subset_any x.1.1 y.1.1 x.1.2 y.1.2 W (x.2.1.below hW) (y.2.1.below hW) x.g y.g y.2.2.1.2.2.2.1 _ (subB_iff x.g.len)
theorem sapN_any {w0 : World} {m : Nat} [Inhabited (NetEl w0 m)] (wb : World) (c blk off cap : Nat) (d : Array (NetEl w0 m)) (w : World) (hR : RowP NetEl.enc w0 wb c blk off cap d w) (hblk : w0.heap.size ≤ blk) (hc0 : w0.heap.size ≤ c) (hne : c ≠ blk) (hsz : d.size ≤ 2147483647) (hcap : d.size ≤ cap) :
    Calls Try.prog 44 #[.pointer (some ⟨c, 0, none⟩), .func (.func 35) #[] #[], .func (.func 36) #[] #[]] w (SapPost NetEl.enc NetEl.cf NetEl.sub w0 wb c blk off cap d) :=
  sap_any NetEl.enc NetEl.one NetEl.cf NetEl.swo NetEl.sub w0 NetEl.cmp_any NetEl.sub_any wb c blk off cap d w hR hblk hc0 hne hsz hcap

/-- A set of networks of m bytes, sorted and pruned, that was made of L. -/
def SetN (w0 : World) (m c blk : Nat) (L : List (Nat × NetA)) (W : World) : Prop :=
  ∃ (_ : Inhabited (NetEl w0 m)) (off cap : Nat) (d : Array (NetEl w0 m)) (wb : World), (d.toList.map NetEl.pt).Perm L ∧ Go.Sort.SortedIn (Go.Proofs.ltOf NetEl.cf) 0 d.size d ∧ RowP NetEl.enc w0 wb c blk off cap (prune NetEl.sub d.toList).toArray W ∧ w0.heap.size ≤ blk ∧ c ≠ blk ∧ d.size ≤ 2147483647 ∧ 0 < d.size
theorem SetN.next {w0 W W2 : World} {m c blk : Nat} {L : List (Nat × NetA)} (h : SetN w0 m c blk L W) (k : Below W.heap.size W W2) : SetN w0 m c blk L W2 := by
  obtain ⟨i, off, cap, d, wb, h1, h2, h3, h4⟩ := h
  exact ⟨i, off, cap, d, wb, h1, h2, h3.next k, h4⟩
theorem SetN.far {w0 W W2 : World} {m c blk c' blk' : Nat} {L : List (Nat × NetA)} (h : SetN w0 m c blk L W) (k : Kept W c' blk' W2) (hb : Below w0.heap.size w0 W2) (h1 : c ≠ c') (h2 : c ≠ blk') (h3 : blk ≠ c') (h4 : blk ≠ blk') : SetN w0 m c blk L W2 := by
  obtain ⟨i, off, cap, d, wb, p1, p2, p3, p4⟩ := h
  exact ⟨i, off, cap, d, _, p1, p2, p3.far k hb h1 h2 h3 h4, p4⟩
theorem sorted_pairwise {α : Type} [Inhabited α] (cf : α → α → Int) (d : Array α) (h : Go.Sort.SortedIn (Go.Proofs.ltOf cf) 0 d.size d) : d.toList.Pairwise (fun a b => 0 ≤ cf b a) := by
  rw [List.pairwise_iff_getElem]
  intro i j hi hj hij
  have := h i j (Nat.zero_le _) hij (by simpa using hj)
  rw [getElem!_pos d j (by simpa using hj), getElem!_pos d i (by simpa using hi)] at this
  unfold Go.Proofs.ltOf at this
  simp only [decide_eq_false_iff_not] at this
  simp only [Array.getElem_toList]
  omega
/-- What a search in a set finds. -/
theorem SetN.search {w0 W : World} {m c blk : Nat} {L : List (Nat × NetA)} (h : SetN w0 m c blk L W) (A : Option Addr) (n cp : Nat) (l : List UInt8) (hn : n = l.length) (hc : n ≤ cp) (hr : Rd w0 A (u8s l)) (ha : AddrOk l) (b : Bool) (hb : b = true ↔ ∃ p ∈ L, InN p.2.ad p.2.ms l) :
    Calls Try.prog 95 #[.pointer (some ⟨c, 0, none⟩), .slice A n cp, .func (.func 96) #[] #[], .func (.func 97) #[] #[]] W (FoundPost b W) := by
  obtain ⟨i, off, cap, d, wb, h1, h2, h3, h4, h5, h6, h7⟩ := h
  have hps := prune_sublist NetEl.sub d.toList
  have hK : (prune NetEl.sub d.toList) ≠ [] := fun e => by
    have := (prune_nil NetEl.sub d.toList).1 e
    rw [← Array.length_toList, this] at h7
    cases h7
  have hp := sorted_pairwise NetEl.cf d h2
  have hle : ∀ x y : NetEl w0 m, 0 ≤ NetEl.cf y x → netCmp x.key y.key ≤ 0 := fun x y h => by
    have := netCmp_neg x.key y.key
    unfold NetEl.cf at h
    omega
  have hcmp : ∀ x : NetEl w0 m, ∀ y, 0 ≤ NetEl.cf y x → (Lib.compareBytes y.key.1 l ≤ 0 → Lib.compareBytes x.key.1 l ≤ 0) ∧ (Lib.compareBytes y.key.1 l < 0 → Lib.compareBytes x.key.1 l < 0) := fun x y h => by
    have o := (netCmp_le (hle x y h)).1
    exact ⟨fun k => (compareBytes_le_trans _ _ _ o k).1, fun k => (compareBytes_le_trans _ _ _ o (by omega)).2.1 k⟩
  have hm2 : (prune NetEl.sub d.toList).Pairwise (fun a b => 0 ≤ NetEl.cf b a) := hp.sublist hps
  have hmono : ∀ a b, a ≤ b → b < (prune NetEl.sub d.toList).toArray.size → Lib.compareBytes (prune NetEl.sub d.toList).toArray[b]!.key.1 l < 0 → Lib.compareBytes (prune NetEl.sub d.toList).toArray[a]!.key.1 l < 0 := fun a b hab hbl hlt => by
    rcases Nat.lt_or_ge a b with e | e
    · rw [getElem!_pos _ b hbl] at hlt
      rw [getElem!_pos _ a (by omega)]
      have := List.pairwise_iff_getElem.1 hm2 a b (by simpa using (Nat.lt_trans e hbl)) (by simpa using hbl) e
      exact (hcmp _ _ this).2 hlt
    · rw [show a = b by omega]; exact hlt
  have hs := search_any NetEl.enc NetEl.one (.slice A n cp) (fun x : NetEl w0 m => Lib.compareBytes x.key.1 l) (fun x => inB x.key.1 x.key.2 l) w0
    (fun W hW x => binSearch_any x.1.1 x.1.2 A n cp l W (x.2.1.below hW) hn (hr.below hW))
    (fun W hW x => ipMatch_any x.1.1 x.1.2 A n cp l W (x.2.1.below hW) x.g hn hc (hr.below hW) ha _ (inB_iff x.g.len l))
    wb c blk off cap _ W h3 h4 h5 (by have := hps.length_le; simp at this ⊢; omega) (by simpa using List.length_pos_iff.2 hK) hmono
  refine hs.mono fun e w' ⟨hf, _⟩ => ?_
  have key := found_iff d.toList (fun x : NetEl w0 m => Lib.compareBytes x.key.1 l) (fun x => inB x.key.1 x.key.2 l) NetEl.sub (fun a b => 0 ≤ NetEl.cf b a) (fun e => by rw [← Array.length_toList, e] at h7; cases h7) hp
    (fun x _ => by
      obtain ⟨k, hk⟩ := x.2.2.1.form
      exact (subB_iff x.g.len).2 ((hk.sub hk).2 ⟨rfl, Nat.le_refl _, hk.self⟩))
    (fun x _ y _ z _ hxy hyz hxz => by
      obtain ⟨k, hk⟩ := x.2.2.1.form
      obtain ⟨j, hj⟩ := y.2.2.1.form
      have hz := (subB_iff x.g.len).1 hxz
      exact (subB_iff x.g.len).2 (sub_between hk hj (by rw [y.2.2.2.1, x.2.2.2.1]) (hle x y hxy) (netCmp_le (hle y z hyz)).1 hz.1))
    (fun x _ y _ hxy hlt => (hcmp x y hxy).2 hlt) (fun x _ y _ hxy hlt => (hcmp x y hxy).1 hlt)
    (fun x _ hx => ((inB_iff x.g.len l).1 hx).above x.g.len)
    (fun x _ hx => (inB_iff x.g.len l).2 (by
      obtain ⟨k, hk⟩ := x.2.2.1.form
      rw [← compareBytes_zero _ _ hx]; exact hk.self))
    (fun x _ y _ hxy hlt hx => by
      obtain ⟨k, hk⟩ := x.2.2.1.form
      obtain ⟨j, hj⟩ := y.2.2.1.form
      exact (subB_iff x.g.len).2 (sub_between hk hj (by rw [y.2.2.2.1, x.2.2.2.1]) (hle x y hxy) hlt ((inB_iff x.g.len l).1 hx)))
    (fun x _ y _ hxy hy => by
      obtain ⟨k, hk⟩ := x.2.2.1.form
      obtain ⟨j, hj⟩ := y.2.2.1.form
      exact (inB_iff x.g.len l).2 (hk.trans hj ((subB_iff x.g.len).1 hxy) ((inB_iff y.g.len l).1 hy)))
  have e1 : searchL (prune NetEl.sub d.toList).toArray.toList (fun x : NetEl w0 m => Lib.compareBytes x.key.1 l) (fun x => inB x.key.1 x.key.2 l) = b := by
    rw [Bool.eq_iff_iff, hb]
    refine key.trans ⟨fun ⟨x, hx, hin⟩ => ⟨x.1, h1.subset (List.mem_map.2 ⟨x, hx, rfl⟩), (inB_iff x.g.len l).1 hin⟩, fun ⟨p, hp, hin⟩ => ?_⟩
    obtain ⟨x, hx, rfl⟩ := List.mem_map.1 (h1.symm.subset hp)
    exact ⟨x, hx, (inB_iff x.g.len l).2 hin⟩
  rw [e1] at hf
  exact hf
end Go.Proofs.Ytgaolfbbfdojjaa
