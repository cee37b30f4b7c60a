/-
  A row of networks as an argument; walk: impl.networks.
-/
import Derived.Test.YtgaolfbbfdojjaaN11
import Derived.Deep.SlicePairs
import Derived.Maps.AppendAt
namespace Go.Proofs.Ytgaolfbbfdojjaa
open Go.ChangeShapes Go.WideShapes Go.ChangeAt Go.RowKit

/-- A row of networks, as it reads. -/
def NetsR (W : World) (A : Option Addr) (ns : List NetA) : Prop := ∀ j (h : j < ns.length), ∃ ad, A = some ad ∧ W.cell? (ad.add (j * 2)) = some (.slice ns[j].A ns[j].ad.length ns[j].c) ∧ W.cell? (ad.add (j * 2 + 1)) = some (.slice ns[j].M ns[j].ms.length ns[j].d) ∧ NetR W ns[j]
theorem NetsR.below {W W2 : World} {A : Option Addr} {ns : List NetA} (h : NetsR W A ns) (k : Below W.heap.size W W2) : NetsR W2 A ns := fun j hj => by
  obtain ⟨ad, e, h1, h2, h3⟩ := h j hj
  exact ⟨ad, e, (k.cell (cell_lt h1)).trans h1, (k.cell (cell_lt h2)).trans h2, h3.below k⟩
theorem choose_net {n : Nat} {p : Nat → NetA → Prop} (h : ∀ i, i < n → ∃ x, p i x) : ∃ ns : List NetA, ns.length = n ∧ ∀ i (hi : i < ns.length), p i ns[i] := by
  induction n with
  | zero => exact ⟨[], rfl, fun i hi => by simp at hi⟩
  | succ n ih =>
    obtain ⟨ns, h1, h2⟩ := ih fun i hi => h i (by omega)
    obtain ⟨x, hx⟩ := h n (by omega)
    refine ⟨ns ++ [x], by simp [h1], fun i hi => ?_⟩
    by_cases e : i < ns.length
    · rw [List.getElem_append_left e]; exact h2 i e
    · have : i = ns.length := by simp at hi; omega
      subst this
      rw [List.getElem_append_right (Nat.le_refl _)]
      simpa [h1] using hx
theorem cells_net : Try.prog.cellsOf 24 = 2 := by kernel_rfl
theorem cells_bytes : Try.prog.cellsOf 22 = 1 := by kernel_rfl
set_option maxRecDepth 4000 in
theorem opened_nets {H : Type} {enc : TypeId × Value → H} {W : World} {sp : Nat → Bool} {base : Nat} {v : Value} {d : DataW H} {p : List MemPlace} (hval : Value.okWide Try.prog W .any base 28 v) (h : DataW.Trod enc Try.prog W 0 sp true 28 v d p) :
    ∃ (A : Option Addr) (n c : Nat) (ns : List NetA), v = .slice A n c ∧ (n = ns.length ∧ n ≤ maxLen ∧ NetsR W A ns) := by
  obtain ⟨A, n, c, rfl⟩ := okWide_slice Try.underlying28 hval
  obtain ⟨fuel, hf⟩ := h
  rcases Go.Deep.open_slice_pairs Try.underlying28 Try.underlying24 cells_net rfl rfl cells_bytes cells_bytes hf with ⟨hcs, -⟩ | ⟨a, len', cap', m, k, V0, V1, D0, D1, P0, P1, hcs, -, hl, hm, hmm, -, hcell⟩
  · simp [Value.cells] at hcs
    obtain ⟨rfl, rfl, rfl⟩ := hcs
    exact ⟨none, 0, 0, [], rfl, rfl, Nat.zero_le _, fun j hj => by simp at hj⟩
  · simp [Value.cells] at hcs
    obtain ⟨rfl, rfl, rfl⟩ := hcs
    have hlm : n ≤ m := by rw [hmm]; split <;> omega
    obtain ⟨ns, hn, hns⟩ := choose_net (n := n) (p := fun i N => W.cell? (a.add (i * 2)) = some (.slice N.A N.ad.length N.c) ∧ W.cell? (a.add (i * 2 + 1)) = some (.slice N.M N.ms.length N.d) ∧ NetR W N) fun i hi => by
      obtain ⟨c0, c1, h0, h1⟩ := hcell i (by omega)
      obtain ⟨A, c, ad, e0, hc1, hc2, hc3, hr⟩ := open_row h0
      obtain ⟨M, c', mk, e1, hd1, hd2, hd3, hs⟩ := open_row h1
      simp only [List.cons.injEq, and_true] at e0 e1
      rw [e0] at c0
      rw [e1] at c1
      exact ⟨⟨A, c, M, c', ad, mk⟩, c0, c1, hr, hs, hc1, hc2, hd1, hd2, hc3, hd3⟩
    exact ⟨some a, n, c, ns, rfl, hn.symm, by omega, fun j hj => ⟨a, rfl, hns j hj⟩⟩

/-! ### A ROW OF POINTERS OF THE CALL's OWN -/
theorem info_ptr : (Try.prog.info? 45).map (fun i => (i.zero, i.size, i.bytes)) = some (some (.pointer none), 1, 8) := by kernel_rfl
def OwnL (w : World) (base : Nat) (v : Value) (l : List (Nat × NetA)) : Prop := w.ownsRow base 45 1 v l.length (l.map encP)
theorem wpList_push_ptr {ops : Array Oper} {rest : List Oper} {o : Oper} {a : Act} {w : World} {Q : Exit → Act → World → Prop} (hgd : o.guard = none) (s x : Operand)
    (ho : o.op = .call { callee := .builtin .append, args := #[s, x], argTypes := #[51, 51] })
    (base : Nat) (v : Value) (l : List (Nat × NetA)) (p : Nat × NetA) (hs : a.eval s = v) (hown : OwnL w base v l) (hx : a.eval x = .slice (some ⟨w.heap.size, 0, none⟩) 1 1)
    (hl : l.length ≤ 2147483647) (hbase : base ≤ w.heap.size)
    (h : ∀ v' w', OwnL w' base v' (l ++ [p]) → w.grownBy w' v.ownBlock → (v'.ownBlock = v.ownBlock ∨ ∃ g, v'.ownBlock = some g ∧ w.heap.size < g) → wpList Try.prog ops Q rest (a.put o.dst v') w') : wpList Try.prog ops Q (o :: rest) a (w.alloc (.cells #[.pointer (some ⟨p.1, 0, none⟩)] 45)) := by
  have hmax : (2147483648 : Nat) ≤ maxLen := by unfold maxLen; omega
  obtain ⟨i0, hi, hz0, hz1, hz2⟩ := info_parts info_ptr
  refine wpList_append_own_at _ hgd s x 51 ho base 45 i0 _ 1 8 Try.underlying51 hi hz0 hz1 hz2 rfl (by decide) v _ _ hs (World.ownsRow.alloc hown _) ⟨w.heap.size, 0, none⟩ 1 1 [.pointer (some ⟨p.1, 0, none⟩)] hx rfl ?c1 ?c2 ?c3 ?c4 ?c5 ?_
  case c1 =>
    intro j u hj
    match j, hj with
    | 0, hj => simp at hj; subst hj; simp [Addr.add]
  case c2 => intro u hu; simp at hu; subst hu; rfl
  case c3 => omega
  case c4 => omega
  case c5 => simp; omega
  intro v' w' hown' hgrow _ hat
  refine h v' w' ?_ ⟨hgrow.os, hgrow.tape, hgrow.output, ?_, fun k hk hne => ?_⟩ ?_
  · unfold OwnL
    simpa [encP] using hown'
  · have := hgrow.size; simp at this; omega
  · rw [hgrow.block k (by simp; omega) hne]
    exact Below.heap_alloc _ _ _ hk
  · rcases hat with e | e
    · exact .inl e
    · exact .inr ⟨_, e, by simp⟩

/-- A network that a row's block is no part of. -/
def NetOff (W : World) (row : Option Nat) (p : Nat × NetA) : Prop := NetP W p.1 p.2 ∧ ∀ g, row = some g → p.1 ≠ g ∧ (∀ ad, p.2.A = some ad → p.2.ad ≠ [] → ad.block ≠ g) ∧ (∀ ad, p.2.M = some ad → p.2.ms ≠ [] → ad.block ≠ g)
theorem Rd.grown {w w' : World} {row : Option Nat} {A : Option Addr} {l : List UInt8} (h : Rd w A (u8s l)) (hg : w.grownBy w' row) (hne : ∀ g, row = some g → ∀ ad, A = some ad → l ≠ [] → ad.block ≠ g) : Rd w' A (u8s l) := fun i v hv => by
  obtain ⟨ad, e, hlt, hc⟩ := h i v hv
  have hl : l ≠ [] := fun e => by rw [e] at hv; simp [u8s] at hv
  refine ⟨ad, e, Nat.lt_of_lt_of_le hlt hg.size, ?_⟩
  rw [World.cell?_of_block (w := w) (hg.block _ (by rw [add_block]; exact hlt) (fun e2 => ?_))]
  · exact hc
  · rw [add_block] at e2
    exact hne _ e2.symm ad e hl rfl
theorem NetOff.grown {w w' : World} {row : Option Nat} {p : Nat × NetA} (h : NetOff w row p) (hg : w.grownBy w' row) : NetP w' p.1 p.2 := by
  obtain ⟨⟨h1, h2, h3, h4⟩, ho⟩ := h
  refine ⟨?_, h2.grown hg fun g e => (ho g e).2.1, h3.grown hg fun g e => (ho g e).2.2, h4⟩
  rw [hg.block p.1 (blk_lt h1) (fun e => (ho _ e.symm).1 rfl)]
  exact h1
theorem NetP.off {w : World} {g : Nat} {N : NetA} (h : NetP w g N) {b : Nat} (hb : w.heap.size ≤ b) : NetOff w (some b) (g, N) := by
  refine ⟨h, fun g' e => ?_⟩
  obtain rfl := Option.some.inj e
  have h1 := blk_lt h.1
  have hr : ∀ {A : Option Addr} {l : List UInt8}, Rd w A (u8s l) → ∀ ad, A = some ad → l ≠ [] → ad.block ≠ b := fun {A l} hr ad e hl => by
    obtain ⟨ad', e', hlt, -⟩ := hr 0 _ (u8s_get (List.length_pos_iff.2 hl))
    rw [e] at e'
    obtain rfl := Option.some.inj e'
    omega
  exact ⟨by simp only; omega, hr h.2.1, hr h.2.2.1⟩
theorem NetOff.below {w w' : World} {row : Option Nat} {p : Nat × NetA} (h : NetOff w row p) (k : Below w.heap.size w w') : NetOff w' row p := ⟨h.1.below k, h.2⟩

/-- Networks made for the package: a row of pointers. -/
def keyA (N : NetA) : List UInt8 × List UInt8 := (N.ad, N.ms)
def NetsPost (ns : List NetA) (w : World) (e : Ending) (w' : World) : Prop := ∃ v ps, e = .returned v ∧ OwnL w' w.heap.size v ps ∧ ps.map (fun p => keyA p.2) = ns.map keyA ∧ (∀ p ∈ ps, NetP w' p.1 p.2) ∧ Below w.heap.size w w'
structure NetsAt (ns : List NetA) (w : World) (k : Nat) (v : Value) (ps : List (Nat × NetA)) (W : World) : Prop where
  own : OwnL W w.heap.size v ps
  keys : ps.map (fun p => keyA p.2) = (ns.take k).map keyA
  nets : ∀ p ∈ ps, NetOff W v.ownBlock p
  old : Below w.heap.size w W
theorem NetsAt.len {ns : List NetA} {w W : World} {k : Nat} {v : Value} {ps : List (Nat × NetA)} (h : NetsAt ns w k v ps W) (hk : k ≤ ns.length) : ps.length = k := by
  have := congrArg List.length h.keys
  simpa [hk] using this
theorem NetsAt.below {ns : List NetA} {w W W2 : World} {k : Nat} {v : Value} {ps : List (Nat × NetA)} (h : NetsAt ns w k v ps W) (b : Below W.heap.size W W2) : NetsAt ns w k v ps W2 := by
  refine ⟨?_, h.keys, fun p hp => (h.nets p hp).below b, h.old.trans (b.mono h.old.size)⟩
  exact World.ownsRow.kept (row := none) h.own ⟨b.os, b.tape, b.output, b.size, fun k hk _ => b.block k hk⟩ (by
    cases e : v.ownBlock
    · exact .inl rfl
    · exact .inr (by simp))
theorem NetsAt.push {ns : List NetA} {w W W2 : World} {k : Nat} {v v' : Value} {ps : List (Nat × NetA)} {p : Nat × NetA} (h : NetsAt ns w k v ps W) (hk : k < ns.length) (hp : NetOff W v.ownBlock p) (hkey : keyA p.2 = keyA ns[k])
    (hown : OwnL W2 w.heap.size v' (ps ++ [p])) (hg : W.grownBy W2 v.ownBlock) (hat : v'.ownBlock = v.ownBlock ∨ ∃ g, v'.ownBlock = some g ∧ W.heap.size < g) : NetsAt ns w (k + 1) v' (ps ++ [p]) W2 := by
  refine ⟨hown, ?_, fun q hq => ?_, h.old.grown hg h.old.size (fun g e => (World.ownsRow.lt h.own g e).1)⟩
  · rw [List.map_append, h.keys, List.take_succ_eq_append_getElem hk, List.map_append]
    simp [hkey]
  · have ho : NetOff W v.ownBlock q := by
      rcases List.mem_append.1 hq with hq | hq
      · exact h.nets q hq
      · rw [List.mem_singleton.1 hq]; exact hp
    refine ⟨ho.grown hg, ?_⟩
    rcases hat with e | ⟨g, e, hlt⟩
    · rw [e]; exact ho.2
    · rw [e]; exact (ho.1.off (Nat.le_of_lt hlt)).2
/-- A network that is read out of a row. -/
theorem run_loadNet (X : Addr) (V0 V1 : Value) (w : World) (c0 : w.cell? (X.add 0) = some V0) (c1 : w.cell? (X.add 1) = some V1) : (loadVar 24 X).run Try.prog w = .ok (.agg #[V0, V1]) w := by
  have hl : (loadCells X [V0, V1].length).run Try.prog w = .ok [V0, V1].toArray w := run_loadCells_list (P := Try.prog) w X [V0, V1] fun j v hv => by
    match j, hv with
    | 0, hv => simp at hv; subst hv; exact c0
    | 1, hv => simp at hv; subst hv; exact c1
  have hagg : (isAgg 24).run Try.prog w = .ok true w := by
    unfold isAgg
    rw [Sem.run_bind, run_underlying Try.underlying24 w]
    rfl
  simp only [List.length_cons, List.length_nil] at hl
  simp [loadVar, hagg, hl]
theorem wpList_load_net {ops : Array Oper} {rest : List Oper} {o : Oper} {a : Act} {w : World} {Q : Exit → Act → World → Prop} (hgd : o.guard = none) (x : Operand) (ho : o.op = .load 24 x)
    (X : Addr) (hx : a.eval x = .pointer (some X)) (V0 V1 : Value) (c0 : w.cell? (X.add 0) = some V0) (c1 : w.cell? (X.add 1) = some V1)
    (h : wpList Try.prog ops Q rest (a.put o.dst (.agg #[V0, V1])) w) : wpList Try.prog ops Q (o :: rest) a w :=
  wpList_plain hgd fun _ hK => by
    unfold Oper.wp execOp
    simp only [ho, hx, Instr.loadAt, Instr.sureAddr, Sem.run_bind, Sem.run_pure, Result.andThen_ok, run_loadNet X V0 V1 w c0 c1]
    exact hK _ _ h
set_option maxHeartbeats 1000000 in
theorem networks_any (A : Option Addr) (n c : Nat) (ns : List NetA) (w : World) (hn : n = ns.length) (hl : ns.length ≤ 2147483647) (hr : NetsR w A ns) (hs : ∀ N ∈ ns, N.ad.length ≤ 2147483647 ∧ N.ms.length ≤ 2147483647) :
    Calls Try.prog 30 #[.slice A n c] w (NetsPost ns w) := by
  subst hn
  have HR := Lib.hid hr
  have HS := Lib.hid hs
  clear hr hs
  have N0 : Aside (NetsAt ns w 0 (.slice none 0 0) [] w) := ⟨World.ownsRow_nil _ _ _ _, rfl, fun p hp => by simp at hp, Below.refl _ _⟩
  go_enter Try.func30, Try.ntmps30
  go_wp2
  go_loopg [3, 8] ns.length (fun kx s3 s8 wr => ∃ (k : Nat) (ps : List (Nat × NetA)), s8 = .int .i64 k ∧ k ≤ ns.length ∧ ns.length - k ≤ kx ∧ Aside (NetsAt ns w k s3 ps wr))
  case atStart => exact ⟨0, [], rfl, by omega, by omega, N0⟩
  case round =>
    clear N0
    obtain ⟨k, ps, rfl, hk, hg, HA⟩ := hrel
    by_cases hlt : k < ns.length
    · obtain ⟨ad, rfl, c0, c1, hN⟩ := (HR.out.below HA.out.old) k hlt
      have HB := Lib.hid (BoxR.start hN)
      have HC : Hid (∀ W, BoxR wr wr.heap.size ns[k] W → Calls Try.prog 26 #[netV ns[k]] W (NetPost ns[k].ad ns[k].ms W)) := fun W h => network_any _ W h.2.1 (HS.out _ (List.getElem_mem hlt)).1 (HS.out _ (List.getElem_mem hlt)).2
      have HL := Lib.hid (HA.out.len hk)
      unfold netV at HC
      have c2 := c1
      have c3 := c0
      rw [← Go.Deep.add_add] at c2
      rw [show ad.add (k * 2) = (ad.add (k * 2)).add 0 by rw [Go.Deep.add_add]; rfl] at c3
      clear hN c1
      go_wp2_with (with_reducible refine wpList_load_net rfl (.tmp 10) rfl _ rfl _ _ c3 c2 ?_)
      refine (HC.out _ HB.out).mono ?_
      rintro e w1 ⟨g, N, rfl, e1, e2, hgs, hP, hb1⟩
      have HA1 := Lib.hid (HA.out.below (HB.out.2.2.trans (hb1.mono HB.out.2.2.size)))
      have HO : Hid (NetOff w1 u3.ownBlock (g, N)) := by
        refine ⟨hP, ?_⟩
        cases e3 : u3.ownBlock with
        | none => intro g e; cases e
        | some b =>
          have hlt2 := (World.ownsRow.lt HA.out.own b e3).2
          have hsz : wr.heap.size < (wr.alloc (.cells #[.slice ns[k].A ns[k].ad.length ns[k].c, .slice ns[k].M ns[k].ms.length ns[k].d] 24)).heap.size := by simp
          intro g' e4
          obtain rfl := Option.some.inj e4
          exact ⟨by have := hgs.1; simp only; omega, fun ad e _ => by have := hgs.2.1 ad e; omega, fun ad e _ => by have := hgs.2.2 ad e; omega⟩
      have HK : Hid (keyA N = keyA ns[k]) := by
        show _ = _
        unfold keyA; rw [e1, e2]
      have hpl : ps.length ≤ 2147483647 := by have := HL.out; omega
      clear e1 e2 hgs hP hb1 c0 c2 c3
      go_wp2_with (at_builtin; refine wpList_push_ptr rfl (.tmp 12) (.tmp 15) rfl w.heap.size _ ps (g, N) rfl HA1.out.own rfl hpl HA1.out.old.size ?_)
      intro v' w2 hown hgr hat
      have HA2 := Lib.hid (HA1.out.push hlt HO.out HK.out hown hgr hat)
      clear hown hgr hat
      go_wp2
      go_roundg (ns.length - (k + 1))
      case measure => omega
      case rel => exact ⟨k + 1, ps ++ [(g, N)], by go_num, by omega, by omega, HA2.out⟩
    · obtain rfl : k = ns.length := by omega
      have F : Hid (NetsPost ns w (.returned u3) wr) := ⟨u3, ps, rfl, HA.out.own, by rw [HA.out.keys, List.take_length], fun p hp => (HA.out.nets p hp).1, HA.out.old⟩
      clear HA
      go_wp2
      go_ret
      exact F.out
end Go.Proofs.Ytgaolfbbfdojjaa
