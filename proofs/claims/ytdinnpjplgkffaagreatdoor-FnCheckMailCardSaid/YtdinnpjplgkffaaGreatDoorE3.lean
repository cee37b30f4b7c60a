/-
  Walks: newDNSConstraints where there are none, or nothing is one; check at a name, ZZCheckDNS, impl.CheckDNS.
-/
import Derived.Test.YtdinnpjplgkffaaGreatDoorE2
namespace Go.Proofs.YtdinnpjplgkffaaGreatDoor
open Go.ChangeShapes Go.WideShapes Go.ChangeAt Go.RowKit

theorem newDNS_nil (A : Option Addr) (c : Nat) (pm : Bool) (w : World) : Calls Tryz.prog 41 #[.slice A 0 c, .bool pm] w (SameE .nilIface w) := by
  go_enter Tryz.func41, Tryz.ntmps41
  go_wp2
  go_ret
  exact ⟨rfl, rfl⟩
def DnsPost (L : List ByteArray) (w : World) (e : Ending) (w' : World) : Prop := ∃ g, e = .returned (.iface 108 (.pointer (some ⟨g, 0, none⟩))) ∧ DnsC w L g w' ∧ Below w.heap.size w w'
theorem size_eq0 {x : ByteArray} : ((x.size : Int) == 0) = decide (x.size = 0) := by
  rw [Bool.eq_iff_iff, beq_iff_eq, decide_eq_true_eq]; omega
set_option maxHeartbeats 1000000 in
theorem newDNS_all (A : Option Addr) (n c : Nat) (L : List ByteArray) (pm : Bool) (w : World) (hn : n = L.length) (hl : L.length ≤ 2147483647) (hr : Rd w A (strs L)) (he : ∃ y ∈ L, y.size = 0) (hz : ∀ y ∈ L, y.size ≤ 2147483647) :
    Calls Tryz.prog 41 #[.slice A n c, .bool pm] w (DnsPost L w) := by
  subst hn
  have HR := Lib.hid hr
  have HZ := Lib.hid hz
  have F : Hid (DnsPost L w (.returned (.iface 108 (.pointer (some ⟨w.heap.size, 0, none⟩)))) (w.alloc (.cells #[.bool true, .bool false, .pointer none, .map none] 112))) :=
    ⟨_, rfl, .inl ⟨he, by rw [blk_cell (blk_new w _)]; rfl⟩, Below.one _ _⟩
  have h0 : ((L.length : Int) == 0) = false := by
    obtain ⟨y, hy, -⟩ := he
    have := List.length_pos_of_mem hy
    rw [beq_eq_false_iff_ne]; omega
  have HE := Lib.hid he
  clear hr hz he
  go_enter Tryz.func41, Tryz.ntmps41
  go_wp2
  go_loopg [18] L.length (fun kx s18 wr => w = wr ∧ ∃ k : Nat, k ≤ L.length ∧ L.length - k ≤ kx ∧ s18 = .int .i64 k ∧ Aside (∀ y ∈ L.take k, y.size ≠ 0))
  case atStart => exact ⟨rfl, 0, by omega, by omega, rfl, fun y hy => by simp at hy⟩
  case round =>
    obtain ⟨rfl, k, hk, hg, rfl, Q⟩ := hrel
    by_cases hlt : k < L.length
    · obtain ⟨ad1, rfl, h1l, hc1⟩ := HR.out k _ (strs_get hlt)
      have hx := HZ.out _ (List.getElem_mem hlt)
      by_cases he : (L[k]).size = 0
      · have e1 : (((L[k]).size : Int) == 0) = true := by rw [size_eq0, decide_eq_true he]
        generalize L[k] = y at hc1 e1 hx
        clear Q he
        go_wp2
        go_ret
        exact F.out
      · have Q2 : Aside (∀ y ∈ L.take (k + 1), y.size ≠ 0) := fun y hy => by
          rw [List.take_succ_eq_append_getElem hlt] at hy
          rcases List.mem_append.1 hy with h | h
          · exact Q.out y h
          · simp at h; rw [h]; exact he
        have e1 : (((L[k]).size : Int) == 0) = false := by rw [size_eq0, decide_eq_false he]
        generalize L[k] = y at hc1 e1 hx
        clear Q he
        go_wp2
        go_roundg (L.length - (k + 1))
        case measure => omega
        case rel => exact ⟨rfl, k + 1, by omega, by omega, by go_num, Q2⟩
    · exfalso
      obtain ⟨y, hy, e⟩ := HE.out
      exact Q.out y (by rw [List.take_of_length_le (by omega)]; exact hy) e

/-! ### THE CHECK -/
set_option maxRecDepth 100000 in
set_option maxHeartbeats 4000000 in
theorem check_any (g b : Nat) (P E : Value) (x : ByteArray) (p q : Option Bool) (w : World) (c0 : w.cell? ⟨g, 3, none⟩ = some (.string { data := #[68, 78, 83, 32, 110, 97, 109, 101] })) (c1 : w.cell? ⟨g, 4, none⟩ = some P) (c2 : w.cell? ⟨g, 5, none⟩ = some E) (cb : w.cell? ⟨b, 0, none⟩ = some (.string x))
    (hP : AskQ w P (.string x) p) (hE : AskQ w E (.string x) q) (hx : nameOk (bytes x) = true) (r : Bool) (hr : refB p q = r) :
    Calls Tryz.prog 33 #[.pointer (some ⟨g, 0, none⟩), .slice (some ⟨b, 0, none⟩) 1 1, .slice none 0 0, .slice none 0 0, .slice none 0 0] w (ChkPost { data := #[68, 78, 83, 32, 110, 97, 109, 101] } r w) := by
  have HC := Lib.hid (checkN_any { data := #[68, 78, 83, 32, 110, 97, 109, 101] } (by decide) P E (.string x) p q w hP hE r hr)
  have hxs : x.size ≤ 2147483647 := by have := nameOk_size hx; rw [bytes_length] at this; omega
  have hv := domainValid_any x false hxs w
  rw [nameOk_validL hx] at hv
  have HV := Lib.hid hv
  clear hP hE hr hv hx
  go_enter Tryz.func33, Tryz.ntmps33
  go_wp2
  refine wp_loop_rounds 1 ?_
  rw [rounds_succ]
  go_wp2
  refine wp_loop_rounds 2 ?_
  rw [rounds_succ]
  go_wp2_with fail
  refine HV.out.mono ?_
  rintro e w0 ⟨rfl, rfl⟩
  go_wp2_with fail
  refine HC.out.mono ?_
  rintro e w1 ⟨hb1, h⟩
  rcases h with ⟨rfl, rfl⟩ | ⟨rfl, v, s, rfl, he, hs⟩
  · have F : Hid (ChkPost { data := #[68, 78, 83, 32, 110, 97, 109, 101] } false w (.returned .nilIface) w1) := ⟨hb1, .inl ⟨rfl, rfl⟩⟩
    clear hb1 HC
    go_wp2
    rw [rounds_succ]
    go_wp2
    refine wp_loop_rounds 1 ?_
    rw [rounds_succ]
    go_wp2
    refine wp_loop_rounds 1 ?_
    rw [rounds_succ]
    go_wp2
    go_ret
    exact F.out
  · have F : Hid (ChkPost { data := #[68, 78, 83, 32, 110, 97, 109, 101] } true w (.returned v) w1) := ⟨hb1, .inr ⟨rfl, v, s, rfl, he, hs⟩⟩
    obtain ⟨gg, rfl, -⟩ := he
    clear hb1 HC hs
    go_wp2
    go_ret
    exact F.out
theorem AskQ.form {w : World} {P arg : Value} {p : Option Bool} (h : AskQ w P arg p) : P = .nilIface ∨ ∃ g, P = .iface 108 (.pointer (some ⟨g, 0, none⟩)) := by
  rcases h with ⟨-, e⟩ | ⟨g, _, -, e, -⟩
  · exact .inl e
  · exact .inr ⟨g, e⟩
theorem two_cells (W : World) (C : Array Value) (T T2 : TypeId) (v : Value) : (∀ j, ((W.alloc (.cells C T)).alloc (.cells #[v] T2)).cell? ⟨W.heap.size, j, none⟩ = C[j]?) ∧ ((W.alloc (.cells C T)).alloc (.cells #[v] T2)).cell? ⟨W.heap.size + 1, 0, none⟩ = some v ∧ Below W.heap.size W ((W.alloc (.cells C T)).alloc (.cells #[v] T2)) := by
  have h1 : (W.alloc (.cells C T)).heap.size = W.heap.size + 1 := by simp
  refine ⟨fun j => ?_, ?_, (Below.one _ _).trans ((Below.one _ _).mono (by simp))⟩
  · rw [(Below.one (W.alloc (.cells C T)) (.cells #[v] T2)).cell (p := ⟨W.heap.size, j, none⟩) (by simp), blk_cell (blk_new W _)]
  · rw [← h1, blk_cell (blk_new _ _)]; rfl
/-- What is made of a row of constraints, as it answers at a name. -/
def AskN (x : ByteArray) (p : Option Bool) (w : World) (e : Ending) (w' : World) : Prop := ∃ P, e = .returned P ∧ AskQ w' P (.string x) p ∧ Below w.heap.size w w'
theorem DnsPost.askt {L : List ByteArray} {w w' : World} {e : Ending} (h : DnsPost L w e w') (hL : TextsE L) {x : ByteArray} (hx : AskT x) {b : Bool} (hb : b = true ↔ MetD L x) : AskN x (some b) w e w' := by
  obtain ⟨g, rfl, hD, hw⟩ := h
  exact ⟨_, rfl, .inr ⟨g, b, rfl, rfl, fun W hW => query_ask g w W L (hD.next hW) hL x hx b hb⟩, hw⟩
theorem DnsPost.ask {L : List ByteArray} {w w' : World} {e : Ending} (h : DnsPost L w e w') (hL : NamesE L) {x : ByteArray} (hx : nameOk (bytes x) = true) {b : Bool} (hb : b = true ↔ MetD L x) : AskN x (some b) w e w' := h.askt hL.texts (AskT.of hx) hb
theorem text_not : endsB (({ data := #[68, 78, 83, 32, 110, 97, 109, 101] } : ByteArray) ++ { data := #[32, 105, 115, 32, 110, 111, 116, 32, 112, 101, 114, 109, 105, 116, 116, 101, 100, 32, 98, 121, 32, 97, 110, 121, 32, 99, 111, 110, 115, 116, 114, 97, 105, 110, 116] }) notT = true := by decide +kernel
theorem text_exc : endsB (({ data := #[68, 78, 83, 32, 110, 97, 109, 101] } : ByteArray) ++ { data := #[32, 105, 115, 32, 101, 120, 99, 108, 117, 100, 101, 100, 32, 98, 121, 32, 97, 32, 99, 111, 110, 115, 116, 114, 97, 105, 110, 116] }) notT = false ∧ endsB (({ data := #[68, 78, 83, 32, 110, 97, 109, 101] } : ByteArray) ++ { data := #[32, 105, 115, 32, 101, 120, 99, 108, 117, 100, 101, 100, 32, 98, 121, 32, 97, 32, 99, 111, 110, 115, 116, 114, 97, 105, 110, 116] }) excT = true := by decide +kernel
theorem text_size : (({ data := #[68, 78, 83, 32, 110, 97, 109, 101] } : ByteArray) ++ { data := #[32, 105, 115, 32, 110, 111, 116, 32, 112, 101, 114, 109, 105, 116, 116, 101, 100, 32, 98, 121, 32, 97, 110, 121, 32, 99, 111, 110, 115, 116, 114, 97, 105, 110, 116] }).size ≤ 2147483647 ∧ (({ data := #[68, 78, 83, 32, 110, 97, 109, 101] } : ByteArray) ++ { data := #[32, 105, 115, 32, 101, 120, 99, 108, 117, 100, 101, 100, 32, 98, 121, 32, 97, 32, 99, 111, 110, 115, 116, 114, 97, 105, 110, 116] }).size ≤ 2147483647 := by decide +kernel
def codeI (r : Bool) : Int := if r = true then 1 else 0
theorem codeOf_chk (r : Bool) (w : World) (e : Ending) (w1 : World) (h : ChkPost { data := #[68, 78, 83, 32, 110, 97, 109, 101] } r w e w1) : ∃ v, e = .returned v ∧ Calls Tryz.prog 21 #[v] w1 (SameE (.int .i64 (codeI r)) w1) := by
  obtain ⟨-, h⟩ := h
  rcases h with ⟨rfl, rfl⟩ | ⟨rfl, v, s, rfl, he, hs⟩
  · exact ⟨_, rfl, codeOf_nil w1⟩
  · refine ⟨_, rfl, codeOf_refused v s w1 he ?_ ?_⟩
    · rcases hs with rfl | rfl
      · exact text_size.1
      · exact text_size.2
    · rcases hs with rfl | rfl
      · exact .inl text_not
      · exact .inr text_exc
/-- What a row of constraints is made to, wherever it is copied to. -/
def MakesN (L : List ByteArray) (pm : Bool) (x : ByteArray) (p : Option Bool) : Prop := ∀ (A : Option Addr) (c : Nat) (W : World), Rd W A (strs L) → Calls Tryz.prog 41 #[.slice A L.length c, .bool pm] W (AskN x p W)
end Go.Proofs.YtdinnpjplgkffaaGreatDoor
