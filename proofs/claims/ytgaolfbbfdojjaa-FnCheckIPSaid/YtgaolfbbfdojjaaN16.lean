/-
  Walks: laws.beyond, zzFits3, netsOk, spec.OfNets.
-/
import Derived.Test.YtgaolfbbfdojjaaN15
namespace Go.Proofs.Ytgaolfbbfdojjaa
open Go.ChangeShapes Go.WideShapes Go.ChangeAt Go.RowKit

def ints (xs : List Int) : List Value := xs.map (.int .i64)
theorem ints_get {xs : List Int} {i : Nat} (h : i < xs.length) : (ints xs)[i]? = some (.int .i64 xs[i]) := by
  simp [ints, h]
set_option maxHeartbeats 1000000 in
theorem beyond_any (xs : List Int) (A : Option Addr) (n c : Nat) (w : World) (hn : n = xs.length) (hl : n ≤ 100) (hr : Rd w A (ints xs)) :
    Calls Try.prog 14 #[.slice A n c] w fun e w' => e = .returned (.bool (xs.any (fun x => decide (1048576 < x)))) ∧ w = w' := by
  subst hn
  have HR : Aside (Rd w A (ints xs)) := hr
  clear hr
  go_enter Try.func14, Try.ntmps14
  go_wp2
  go_loopg [7] xs.length (fun kx i wr => w = wr ∧ ∃ k : Nat, k ≤ xs.length ∧ xs.length - k ≤ kx ∧ i = .int .i64 k ∧ Aside (∀ j (h : j < xs.length), j < k → ¬ 1048576 < xs[j]))
  case atStart => exact ⟨rfl, 0, by omega, by omega, rfl, fun j h h' => by omega⟩
  case round =>
    obtain ⟨rfl, k, hk, hg, rfl, Q⟩ := hrel
    by_cases hlt : k < xs.length
    · obtain ⟨ad, rfl, had, hc⟩ := HR.out k _ (ints_get hlt)
      by_cases hok : 1048576 < xs[k]
      · have F : Aside (xs.any (fun x => decide (1048576 < x)) = true) := by
          have : xs.any (fun x => decide (1048576 < x)) = true := by
            rw [List.any_eq_true]
            exact ⟨_, List.getElem_mem hlt, by simpa using hok⟩
          exact this
        clear Q HR
        generalize xs[k] = x at hc hok
        go_wp2
        go_ret
        exact ⟨ret_bool F.out.symm, rfl⟩
      · have Q2 : Aside (∀ j (h : j < xs.length), j < k + 1 → ¬ 1048576 < xs[j]) := fun j h hj => by
          by_cases e : j < k
          · exact Q.out j h e
          · have : j = k := by omega
            subst this; exact hok
        clear Q
        generalize xs[k] = x at hc hok
        go_wp2
        go_roundg (xs.length - (k + 1))
        case measure => omega
        case rel => exact ⟨rfl, k + 1, by omega, by omega, by go_num, Q2⟩
    · have F : Aside (xs.any (fun x => decide (1048576 < x)) = false) := by
        have : xs.any (fun x => decide (1048576 < x)) = false := by
          rw [List.any_eq_false]
          intro x hx
          obtain ⟨j, hj, rfl⟩ := List.getElem_of_mem hx
          have := Q.out j hj (by omega)
          simpa using this
        exact this
      clear Q HR
      go_wp2
      go_ret
      exact ⟨ret_bool F.out.symm, rfl⟩

theorem cast_lt (n : Nat) : decide ((1048576 : Int) < (n : Int)) = decide (1048576 < n) := by
  rw [decide_eq_decide]; omega
/-- laws.beyond at one, two, three sizes that the law lays in a new block. -/
theorem beyond1 (x : Nat) (b : Bool) (hb : decide (1048576 < x) = b) (W : World) :
    Calls Try.prog 14 #[.slice (some ⟨W.heap.size, 0, none⟩) 1 1] (W.alloc (.cells #[.int .i64 (x : Int)] 3)) fun e w' => e = .returned (.bool b) ∧ W.alloc (.cells #[.int .i64 (x : Int)] 3) = w' := by
  refine (beyond_any [(x : Int)] (some ⟨W.heap.size, 0, none⟩) 1 1 _ rfl (by omega) (Rd.new _ _ _)).mono ?_
  rintro e w' ⟨rfl, rfl⟩
  exact ⟨ret_bool (by rw [← hb]; simp [cast_lt]), rfl⟩
theorem beyond2 (x y : Nat) (b : Bool) (hb : (decide (1048576 < x) || decide (1048576 < y)) = b) (W : World) :
    Calls Try.prog 14 #[.slice (some ⟨W.heap.size, 0, none⟩) 2 2] (W.alloc (.cells #[.int .i64 (x : Int), .int .i64 (y : Int)] 3)) fun e w' => e = .returned (.bool b) ∧ W.alloc (.cells #[.int .i64 (x : Int), .int .i64 (y : Int)] 3) = w' := by
  refine (beyond_any [(x : Int), (y : Int)] (some ⟨W.heap.size, 0, none⟩) 2 2 _ rfl (by omega) (Rd.new _ _ _)).mono ?_
  rintro e w' ⟨rfl, rfl⟩
  exact ⟨ret_bool (by rw [← hb]; simp [cast_lt]), rfl⟩
theorem beyond3 (x y z : Nat) (b : Bool) (hb : (decide (1048576 < x) || decide (1048576 < y) || decide (1048576 < z)) = b) (W : World) :
    Calls Try.prog 14 #[.slice (some ⟨W.heap.size, 0, none⟩) 3 3] (W.alloc (.cells #[.int .i64 (x : Int), .int .i64 (y : Int), .int .i64 (z : Int)] 3)) fun e w' => e = .returned (.bool b) ∧ W.alloc (.cells #[.int .i64 (x : Int), .int .i64 (y : Int), .int .i64 (z : Int)] 3) = w' := by
  refine (beyond_any [(x : Int), (y : Int), (z : Int)] (some ⟨W.heap.size, 0, none⟩) 3 3 _ rfl (by omega) (Rd.new _ _ _)).mono ?_
  rintro e w' ⟨rfl, rfl⟩
  exact ⟨ret_bool (by rw [← hb]; simp [cast_lt, Bool.or_assoc]), rfl⟩

/-- One network of a row, as it is read: its two cells. -/
theorem NetsR.at {W : World} {A : Option Addr} {ns : List NetA} (h : NetsR W A ns) {k : Nat} (hk : k < ns.length) : ∃ ad, A = some ad ∧ W.cell? ((ad.add (k * 2)).add 0) = some (.slice ns[k].A ns[k].ad.length ns[k].c) ∧ W.cell? ((ad.add (k * 2)).add 1) = some (.slice ns[k].M ns[k].ms.length ns[k].d) ∧ NetR W ns[k] := by
  obtain ⟨ad, e, c0, c1, hN⟩ := h k hk
  refine ⟨ad, e, ?_, ?_, hN⟩
  · rw [Go.Deep.add_add]; exact c0
  · rw [Go.Deep.add_add]; exact c1
def FitN (N : NetA) : Prop := N.ad.length ≤ 2147483647 ∧ N.ms.length ≤ 2147483647
set_option maxHeartbeats 1000000 in
theorem fits3_any (A : Option Addr) (n c : Nat) (ns : List NetA) (w : World) (hn : n = ns.length) (hl : ns.length ≤ 9223372036854775807) (hr : NetsR w A ns) (b : Bool) (hb : b = true ↔ (ns.length ≤ 2147483647 ∧ ∀ N ∈ ns, FitN N)) :
    Calls Try.prog 13 #[.slice A n c] w (Ret (.bool b) w) := by
  subst hn
  have HR := Lib.hid hr
  have HB := Lib.hid hb
  clear hr hb
  by_cases g0 : 2147483647 < ns.length
  · have F : Hid (b = false) := by
      cases b
      · rfl
      · have := (HB.out.1 rfl).1; omega
    clear HB HR
    go_enter Try.func13, Try.ntmps13
    go_wp2
    go_ret
    exact ⟨ret_bool F.out.symm, Below.refl _ _⟩
  have g1 : ns.length ≤ 2147483647 := by omega
  clear g0
  go_enter Try.func13, Try.ntmps13
  go_wp2
  go_loopg [10] ns.length (fun kx s10 wr => ∃ k : Nat, s10 = .int .i64 k ∧ k ≤ ns.length ∧ ns.length - k ≤ kx ∧ Aside (∀ j (h : j < ns.length), j < k → FitN ns[j]) ∧ Aside (Below w.heap.size w wr))
  case atStart => exact ⟨0, rfl, by omega, by omega, fun j h h2 => by omega, Below.refl _ _⟩
  case round =>
    obtain ⟨k, rfl, hk, hg, Q, HW⟩ := hrel
    by_cases hlt : k < ns.length
    · obtain ⟨ad, rfl, c0, c1, hN⟩ := (HR.out.below HW.out).at hlt
      have HX := Lib.hid (BoxR.start hN)
      have hm : ns[k].ad.length ≤ 9223372036854775807 ∧ ns[k].ms.length ≤ 9223372036854775807 := by
        have := hN.2.2; unfold maxLen at this; omega
      have hF := fun (b : Bool) (W : World) (hb : b = true ↔ FitN ns[k]) => fits2_any ns[k] hm.1 hm.2 W b hb
      unfold netV at hF
      clear hN
      by_cases hf : FitN ns[k]
      · have HF := Lib.hid (fun W => hF true W ⟨fun _ => hf, fun _ => rfl⟩)
        have Q2 : Aside (∀ j (h : j < ns.length), j < k + 1 → FitN ns[j]) := fun j h hj => by
          by_cases e : j < k
          · exact Q.out j h e
          · have : j = k := by omega
            subst this; exact hf
        clear hF hf hm Q
        go_wp2_with (first | (with_reducible refine wpList_load_net rfl (.tmp 12) rfl _ rfl _ _ c0 c1 ?_) | ((with_reducible refine (HF.out _).mono ?_); rintro e w1 ⟨rfl, hb1⟩))
        have HW2 := Lib.hid (HW.out.trans ((HX.out.2.2.trans (hb1.mono HX.out.2.2.size)).mono HW.out.size))
        clear hb1 HX HW
        go_wp2
        go_roundg (ns.length - (k + 1))
        case measure => omega
        case rel => exact ⟨k + 1, by go_num, by omega, by omega, Q2, HW2.out⟩
      · have HF := Lib.hid (fun W => hF false W ⟨fun e => (by cases e), fun e => absurd e hf⟩)
        have F : Hid (b = false) := by
          cases b
          · rfl
          · exact absurd ((HB.out.1 rfl).2 _ (List.getElem_mem hlt)) hf
        clear hF hf hm Q HB
        go_wp2_with (first | (with_reducible refine wpList_load_net rfl (.tmp 12) rfl _ rfl _ _ c0 c1 ?_) | ((with_reducible refine (HF.out _).mono ?_); rintro e w1 ⟨rfl, hb1⟩))
        have HW2 := Lib.hid (HW.out.trans ((HX.out.2.2.trans (hb1.mono HX.out.2.2.size)).mono HW.out.size))
        clear hb1 HX HW
        go_wp2
        go_ret
        exact ⟨ret_bool F.out.symm, HW2.out⟩
    · have F : Hid (b = true) := HB.out.2 ⟨g1, fun N hN => by
        obtain ⟨j, hj, rfl⟩ := List.getElem_of_mem hN
        exact Q.out j hj (by omega)⟩
      clear Q HB
      go_wp2
      go_ret
      exact ⟨ret_bool F.out.symm, HW.out⟩
def NetsGood (ns : List NetA) : Prop := (∀ N ∈ ns, NetGood N.ad N.ms) ∧ ns.length ≤ 50
set_option maxHeartbeats 1000000 in
theorem netsOk_any (A : Option Addr) (n c : Nat) (ns : List NetA) (w : World) (hn : n = ns.length) (hl : ns.length ≤ 2147483647) (hf : ∀ N ∈ ns, FitN N) (hr : NetsR w A ns) (b : Bool) (hb : b = true ↔ NetsGood ns) :
    Calls Try.prog 15 #[.slice A n c] w (Ret (.bool b) w) := by
  subst hn
  have HR := Lib.hid hr
  have HB := Lib.hid hb
  have HFt := Lib.hid hf
  clear hr hb hf
  go_enter Try.func15, Try.ntmps15
  go_wp2
  go_loopg [7] ns.length (fun kx s7 wr => ∃ k : Nat, s7 = .int .i64 k ∧ k ≤ ns.length ∧ ns.length - k ≤ kx ∧ Aside (∀ j (h : j < ns.length), j < k → NetGood ns[j].ad ns[j].ms) ∧ Aside (Below w.heap.size w wr))
  case atStart => exact ⟨0, rfl, by omega, by omega, fun j h h2 => by omega, Below.refl _ _⟩
  case round =>
    obtain ⟨k, rfl, hk, hg, Q, HW⟩ := hrel
    by_cases hlt : k < ns.length
    · obtain ⟨ad, rfl, c0, c1, hN⟩ := (HR.out.below HW.out).at hlt
      have HX := Lib.hid (BoxR.start hN)
      have hm := HFt.out _ (List.getElem_mem hlt)
      have hF : ∀ b W, BoxR wr wr.heap.size ns[k] W → (b = true ↔ NetGood ns[k].ad ns[k].ms) → Calls Try.prog 9 #[netV ns[k]] W (Ret (.bool b) W) := fun b W h hb => netOk_any ns[k] W h.2.1 hm.1 hm.2 b hb
      unfold netV at hF
      clear hN
      by_cases hf : NetGood ns[k].ad ns[k].ms
      · have HF := Lib.hid (fun W h => hF true W h ⟨fun _ => hf, fun _ => rfl⟩)
        have Q2 : Aside (∀ j (h : j < ns.length), j < k + 1 → NetGood ns[j].ad ns[j].ms) := fun j h hj => by
          by_cases e : j < k
          · exact Q.out j h e
          · have : j = k := by omega
            subst this; exact hf
        clear hF hf hm Q
        go_wp2_with (first | (with_reducible refine wpList_load_net rfl (.tmp 9) rfl _ rfl _ _ c0 c1 ?_) | ((with_reducible refine (HF.out _ HX.out).mono ?_); rintro e w1 ⟨rfl, hb1⟩))
        have HW2 := Lib.hid (HW.out.trans ((HX.out.2.2.trans (hb1.mono HX.out.2.2.size)).mono HW.out.size))
        clear hb1 HX HW
        go_wp2
        go_roundg (ns.length - (k + 1))
        case measure => omega
        case rel => exact ⟨k + 1, by go_num, by omega, by omega, Q2, HW2.out⟩
      · have HF := Lib.hid (fun W h => hF false W h ⟨fun e => (by cases e), fun e => absurd e hf⟩)
        have F : Hid (b = false) := by
          cases b
          · rfl
          · exact absurd ((HB.out.1 rfl).1 _ (List.getElem_mem hlt)) hf
        clear hF hf hm Q HB
        go_wp2_with (first | (with_reducible refine wpList_load_net rfl (.tmp 9) rfl _ rfl _ _ c0 c1 ?_) | ((with_reducible refine (HF.out _ HX.out).mono ?_); rintro e w1 ⟨rfl, hb1⟩))
        have HW2 := Lib.hid (HW.out.trans ((HX.out.2.2.trans (hb1.mono HX.out.2.2.size)).mono HW.out.size))
        clear hb1 HX HW
        go_wp2
        go_ret
        exact ⟨ret_bool F.out.symm, HW2.out⟩
    · have F : Hid (decide (ns.length ≤ 50) = b) := by
        show _ = _
        rw [Bool.eq_iff_iff, HB.out]
        unfold NetsGood
        rw [decide_eq_true_eq]
        exact ⟨fun h => ⟨fun N hN => by
          obtain ⟨j, hj, rfl⟩ := List.getElem_of_mem hN
          exact Q.out j hj (by omega), h⟩, fun h => h.2⟩
      have F2 : Hid (decide ((ns.length : Int) ≤ 50) = b) := by
        show _ = _
        rw [← F.out, decide_eq_decide]; omega
      clear Q HB F
      go_wp2
      go_ret
      first
        | exact ⟨ret_bool F2.out, HW.out⟩
        | exact ⟨ret_bool (by rw [← F2.out, decide_eq_decide]; omega), HW.out⟩
/-- What networks say of an address. -/
def saysB (N : NetA) (l : List UInt8) : Int := yesI (inB N.ad N.ms l)
theorem wpList_push_int {ops : Array Oper} {rest : List Oper} {o : Oper} {a : Act} {w : World} {Q : Exit → Act → World → Prop} (hgd : o.guard = none) (s x : Operand)
    (ho : o.op = .call { callee := .builtin .append, args := #[s, x], argTypes := #[34, 34] })
    (base : Nat) (v : Value) (l : List Int) (z : Int) (hs : a.eval s = v) (hown : w.ownsRow base 3 1 v l.length (ints l)) (hx : a.eval x = .slice (some ⟨w.heap.size, 0, none⟩) 1 1)
    (hl : l.length ≤ 2147483647) (hbase : base ≤ w.heap.size)
    (h : ∀ v' w', w'.ownsRow base 3 1 v' (l ++ [z]).length (ints (l ++ [z])) → Below base w w' → wpList Try.prog ops Q rest (a.put o.dst v') w') : wpList Try.prog ops Q (o :: rest) a (w.alloc (.cells #[.int .i64 z] 3)) := by
  have hmax : (2147483648 : Nat) ≤ maxLen := by unfold maxLen; omega
  obtain ⟨i0, hi, hz0, hz1, hz2⟩ := info_parts info_int
  refine wpList_append_own _ hgd s x 34 ho base 3 i0 _ 1 8 Try.underlying34 hi hz0 hz1 hz2 rfl (by decide) v _ _ hs (World.ownsRow.alloc hown _) ⟨w.heap.size, 0, none⟩ 1 1 [.int .i64 z] hx rfl ?c1 ?c2 ?c3 ?c4 ?c5 ?_
  case c1 =>
    intro j u hj
    match j, hj with
    | 0, hj => simp at hj; subst hj; simp [Addr.add]
  case c2 => intro u hu; simp at hu; subst hu; rfl
  case c3 => omega
  case c4 => omega
  case c5 => simp; omega
  intro v' w' hown' hgrow _
  refine h v' w' ?_ (((Below.refl _ _).alloc hbase _).grown hgrow (by simp; omega) (fun k hk => (World.ownsRow.lt hown k hk).1))
  simpa [ints] using hown'
def SaysPost (xs : List Int) (w : World) (e : Ending) (w' : World) : Prop := ∃ A c, e = .returned (.slice A xs.length c) ∧ Rd w' A (ints xs) ∧ Below w.heap.size w w'
set_option maxRecDepth 100000 in
set_option maxHeartbeats 1000000 in
theorem ofNets_any (B : Option Addr) (m d : Nat) (ns : List NetA) (w : World) (hm : m = ns.length) (hl : ns.length ≤ 2147483647) (hrn : NetsR w B ns) (hg : ∀ N ∈ ns, NetGood N.ad N.ms)
    (A : Option Addr) (n c : Nat) (l : List UInt8) (hn : n = l.length) (hr : Rd w A (u8s l)) (hll : l.length ≤ 16) :
    Calls Try.prog 19 #[.slice B m d, .slice A n c] w (SaysPost (ns.map fun N => saysB N l) w) := by
  subst hm hn
  have HR := Lib.hid hrn
  have HG := Lib.hid hg
  have HRl := Lib.hid hr
  have O0 : Aside ((w.alloc (.cells #[] 3)).ownsRow w.heap.size 3 1 (.slice (some ⟨w.heap.size, 0, none⟩) 0 0) 0 (ints [])) := World.ownsRow_made w #[] 0 (Nat.le_refl _) (by omega) rfl
  obtain ⟨X, hX⟩ : ∃ X, X = ns.map fun N => saysB N l := ⟨_, rfl⟩
  have hxl : X.length = ns.length := by rw [hX, List.length_map]
  have hxk : ∀ k (h : k < ns.length) (h2 : k < X.length), X[k] = saysB ns[k] l := fun k h h2 => by subst hX; rw [List.getElem_map]
  rw [← hX]
  have HXL := Lib.hid hxl
  have HXK := Lib.hid hxk
  clear hrn hg hr hX hxl hxk
  go_enter Try.func19, Try.ntmps19
  go_wp2
  go_loopg [5, 11] ns.length (fun kx s5 s11 wr => ∃ k : Nat, s11 = .int .i64 k ∧ k ≤ ns.length ∧ ns.length - k ≤ kx ∧ Aside (wr.ownsRow w.heap.size 3 1 s5 k (ints (X.take k))) ∧ Aside (Below w.heap.size w wr))
  case atStart => exact ⟨0, rfl, by omega, by omega, O0, Below.one _ _⟩
  case round =>
    clear O0
    obtain ⟨k, rfl, hk, hg, HO, HW⟩ := hrel
    by_cases hlt : k < ns.length
    · obtain ⟨ad, rfl, c0, c1, hN⟩ := (HR.out.below HW.out).at hlt
      have HX := Lib.hid (BoxR.start hN)
      have hgd := HG.out _ (List.getElem_mem hlt)
      have hF : ∀ W, BoxR wr wr.heap.size ns[k] W → Calls Try.prog 28 #[netV ns[k], .slice A l.length c] W (Ret (.int .i64 (saysB ns[k] l)) W) := fun W h =>
        ipIn_any ns[k] A l.length c l W rfl (by omega) h.2.1 hgd.bounds.1 hgd.bounds.2 hgd.2.1 (HRl.out.below (HW.out.trans (h.2.2.mono HW.out.size))) _ (inB_iff hgd.2.1 l)
      unfold netV at hF
      have HF := Lib.hid hF
      have hkx : k < X.length := by have := HXL.out; omega
      have hlen : (X.take k).length = k := by rw [List.length_take]; omega
      have HE : Hid (X.take (k + 1) = X.take k ++ [saysB ns[k] l]) := by
        show _ = _
        rw [List.take_succ_eq_append_getElem hkx, HXK.out k hlt hkx]
      have HO' := HO.out
      rw [← hlen] at HO'
      obtain ⟨row, hrow⟩ : ∃ row, row = X.take k := ⟨_, rfl⟩
      rw [← hrow] at HE hlen
      have HO2' := Lib.hid (show wr.ownsRow w.heap.size 3 1 u5 row.length (ints row) by rw [hrow, List.length_take, Nat.min_eq_left (by omega)]; exact HO.out)
      have HLn := Lib.hid hlen
      have hl2 : row.length ≤ 2147483647 := by omega
      clear hN hF hgd hlen hrow HO' hkx
      go_wp2_with (with_reducible refine wpList_load_net rfl (.tmp 13) rfl _ rfl _ _ c0 c1 ?_)
      refine (HF.out _ HX.out).mono ?_
      rintro e w1 ⟨rfl, hb1⟩
      have HB1 := Lib.hid (show Below wr.heap.size wr w1 from HX.out.2.2.trans (hb1.mono HX.out.2.2.size))
      have HO1 : Hid (w1.ownsRow w.heap.size 3 1 u5 row.length (ints row)) := by
        show World.ownsRow _ _ _ _ _ _ _
        refine World.ownsRow.kept (row := none) HO2'.out ⟨HB1.out.os, HB1.out.tape, HB1.out.output, HB1.out.size, fun k hk _ => HB1.out.block k hk⟩ ?_
        cases e : u5.ownBlock
        · exact .inl rfl
        · exact .inr (by simp)
      have hsz : w.heap.size ≤ w1.heap.size := Nat.le_trans HW.out.size HB1.out.size
      clear hb1 HX c0 c1 HO HO2'
      go_wp2_with (at_builtin; refine wpList_push_int rfl (.tmp 15) (.tmp 19) rfl w.heap.size _ row (saysB ns[k] l) rfl HO1.out rfl hl2 hsz ?_)
      intro v' w2 hown hb2
      rw [HLn.out, ← HE.out] at hown
      have HO2 := Lib.hid hown
      have HW2 := Lib.hid (HW.out.trans ((HB1.out.mono HW.out.size).trans hb2))
      clear hown hb2 HO1 HB1
      go_wp2
      go_roundg (ns.length - (k + 1))
      case measure => omega
      case rel => exact ⟨k + 1, by go_num, by omega, by omega, HO2.out, HW2.out⟩
    · obtain rfl : k = ns.length := by omega
      have F : Hid (SaysPost X w (.returned u5) wr) := by
        have h := HO.out
        rw [← HXL.out, List.take_length] at h
        obtain ⟨A, cap, e, -, -, hrd, -⟩ := Rd.own h
        exact ⟨A, cap, by rw [e], hrd, HW.out⟩
      clear HO
      go_wp2
      go_ret
      exact F.out
end Go.Proofs.Ytgaolfbbfdojjaa
