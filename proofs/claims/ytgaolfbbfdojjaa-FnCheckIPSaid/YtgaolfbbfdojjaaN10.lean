/-
  Walks: Mask, Equal at good networks; ipBinarySearch, ipMatch.
-/
import Derived.Test.YtgaolfbbfdojjaaN9
import Derived.Lib.BytesEntry
namespace Go.Proofs.Ytgaolfbbfdojjaa
open Go.ChangeShapes Go.WideShapes Go.ChangeAt Go.RowKit

def GrowP (v : Value) (w : World) (e : Ending) (w' : World) : Prop := e = .returned v ∧ ∃ q os, w' = Go.Sort.grow (w.drewN q) os
theorem binSearch_any (g : Nat) (N : NetA) (A : Option Addr) (n c : Nat) (l : List UInt8) (w : World) (hN : NetP w g N) (hn : n = l.length) (hr : Rd w A (u8s l)) :
    Calls Try.prog 96 #[.pointer (some ⟨g, 0, none⟩), .slice A n c] w fun e w' => e = .returned (.int .i64 (Lib.compareBytes N.ad l)) ∧ ∃ q os, w' = Go.Sort.grow (w.drewN q) os := by
  obtain ⟨c0, c1⟩ := hN.cells
  have HC := Lib.hid (compare_any N.A A _ n N.c c N.ad l w rfl hn hN.2.1 hr)
  clear hN hn hr
  go_enter Try.func96, Try.ntmps96
  go_wp2_with ((with_reducible refine HC.out.mono ?_); rintro e w1 ⟨rfl, rfl⟩)
  go_ret
  exact ⟨rfl, 0, #[], by rw [Go.Sort.grow_empty]; rfl⟩
theorem ipMatch_any (g : Nat) (N : NetA) (A : Option Addr) (n c : Nat) (l : List UInt8) (w : World) (hN : NetP w g N) (hg : NetG N) (hn : n = l.length) (hc : n ≤ c) (hr : Rd w A (u8s l)) (ha : AddrOk l) (b : Bool) (hb : b = true ↔ InN N.ad N.ms l) :
    Calls Try.prog 97 #[.pointer (some ⟨g, 0, none⟩), .slice A n c] w (Ret (.bool b) w) := by
  have HC := Lib.hid (contains_any g N A n c l w hN hg hn hc hr ha b hb)
  clear hN hg hn hc hr ha hb
  go_enter Try.func97, Try.ntmps97
  go_wp2_with ((with_reducible refine HC.out.mono ?_); rintro e w1 ⟨rfl, q, rfl⟩)
  go_ret
  exact ⟨rfl, below_drewN (Below.refl _ _) _⟩
/-- A masked copy: the same bytes. -/
def MaskPost (l : List UInt8) (w : World) (e : Ending) (w' : World) : Prop := ∃ B, e = .returned (.slice (some ⟨B, 0, none⟩) l.length l.length) ∧ Rd w' (some ⟨B, 0, none⟩) (u8s l) ∧ Below w.heap.size w w'
set_option maxRecDepth 100000 in
set_option maxHeartbeats 2000000 in
theorem mask_any (N : NetA) (w : World) (hN : NetR w N) (hg : NetG N) :
    Calls Try.prog 42 #[.slice N.A N.ad.length N.c, .slice N.M N.ms.length N.d] w (MaskPost N.ad w) := by
  obtain ⟨kA, eA⟩ := hg.addr.some hN.1
  obtain ⟨kM, eM, -⟩ := hN.2.1.byte (i := 0) (by have := hg.len; have := hg.addr.len; omega)
  have hl := hg.addr.len
  have hml := hg.len
  have hz := hg.zero
  have hra := hN.1
  have hrm := hN.2.1
  obtain ⟨A, kc, M, kd, kad, kms⟩ := N
  simp only at eA eM hl hml hz hra hrm
  subst eA eM
  clear hN hg
  have HZ := Lib.hid hz
  have HRa := Lib.hid hra
  have HRm := Lib.hid hrm
  have HE := Lib.hid hml
  have k1 : ((kad.length : Int) == (kms.length : Int)) = true := by rw [beq_iff_eq]; omega
  have k2 : ((kad.length : Int) != (kms.length : Int)) = false := by rw [bne_eq_false_iff_eq]; omega
  have hll : kad.length ≤ 16 := by omega
  clear hz hra hrm
  rcases hl with hl | hl
  · have h1 : ((kms.length : Int) == 16) = false := by rw [hml, hl]; rfl
    have h2 : ((kms.length : Int) == 4) = true := by rw [hml, hl]; rfl
    have h3 : ((kad.length : Int) == 16) = false := by rw [hl]; rfl
    clear hl hml
    go_enter Try.func42, Try.ntmps42
    go_wp2
    go_quiet (fail)
    obtain ⟨w2, hw2⟩ : ∃ x, w.drewN nq = x := ⟨_, rfl⟩
    rw [hw2]
    have HB2 := Lib.hid (show Below w.heap.size w w2 by rw [← hw2]; exact below_drewN (Below.refl _ _) _)
    clear hw2
    have hmk := run_make_row' (P := Try.prog) 53 5 (.int .u8 0) 1 Try.underlying53 info_u8 rfl .i64 .i64 kad.length (by omega) (by omega) w2
    obtain ⟨W, hW⟩ : ∃ W, w2.alloc (.cells (madeCells #[.int .u8 0] kad.length) 5) = W := ⟨_, rfl⟩
    rw [hW] at hmk
    have HBW := Lib.hid (show Below w2.heap.size w2 W by rw [← hW]; exact Below.one _ _)
    have HRW := Lib.hid (show W.rowIs w2.heap.size 5 kad.length (fillV kad 0) by
      rw [← hW]
      refine (World.rowIs_made w2 (.int .u8 0) kad.length 5).congr fun i _ => ?_
      unfold fillV
      rw [if_neg (by omega)])
    clear hW
    go_wp2
    go_loopg [7] kad.length (fun kx s7 wr => ∃ k : Nat, k ≤ kad.length ∧ kad.length - k ≤ kx ∧ s7 = .int .i64 k ∧ Aside (wr.rowIs w2.heap.size 5 kad.length (fillV kad k)) ∧ Aside (Below w2.heap.size w2 wr))
    case atStart => exact ⟨0, by omega, by omega, rfl, HRW.out, HBW.out⟩
    case round =>
      clear HRW hmk HBW
      obtain ⟨k, hk, hg, rfl, HR, HB⟩ := hrel
      by_cases hlt : k < kad.length
      · have km : k < kms.length := by have := HE.out; omega
        obtain ⟨pA, eA, cA⟩ := ((HRa.out.below HB2.out).below HB.out).byte hlt
        obtain rfl := Option.some.inj eA
        obtain ⟨pM, eM, cM⟩ := ((HRm.out.below HB2.out).below HB.out).byte km
        obtain rfl := Option.some.inj eM
        clear eA eM
        have km' : (k : Int) < (kms.length : Int) := by omega
        have ho := HR.out.cell hlt
        have hf := HR.out.frozen k
        have HV := Lib.hid ((and_is (kad[k]'hlt) (kms[k]'km)).trans (by rw [HZ.out k hlt km]))
        go_wp2
        go_still_tail 12, (by kernel_rfl)
        change wpList _ _ _ _ _ wr.drew
        go_wp2
        go_roundg (kad.length - (k + 1))
        case measure => omega
        case rel => exact ⟨k + 1, by omega, by omega, by go_num, fill_next HR.out.drew hlt HV.out, (HB.out.drew).setCell (Nat.le_refl _) _⟩
      · obtain rfl : k = kad.length := by omega
        have F : Hid (MaskPost kad w (.returned (.slice (some ⟨w2.heap.size, 0, none⟩) kad.length kad.length)) wr) := ⟨_, rfl, Rd.filled HR.out rfl, HB2.out.trans (HB.out.mono HB2.out.size)⟩
        clear HB HR HRa HRm HZ
        go_wp2
        go_ret
        exact F.out
  · have h1 : ((kms.length : Int) == 16) = true := by rw [hml, hl]; rfl
    have h2 : ((kms.length : Int) == 4) = false := by rw [hml, hl]; rfl
    have h3 : ((kad.length : Int) == 4) = false := by rw [hl]; rfl
    clear hl hml
    go_enter Try.func42, Try.ntmps42
    go_wp2
    go_quiet (fail)
    obtain ⟨w2, hw2⟩ : ∃ x, w.drewN nq = x := ⟨_, rfl⟩
    rw [hw2]
    have HB2 := Lib.hid (show Below w.heap.size w w2 by rw [← hw2]; exact below_drewN (Below.refl _ _) _)
    clear hw2
    have hmk := run_make_row' (P := Try.prog) 53 5 (.int .u8 0) 1 Try.underlying53 info_u8 rfl .i64 .i64 kad.length (by omega) (by omega) w2
    obtain ⟨W, hW⟩ : ∃ W, w2.alloc (.cells (madeCells #[.int .u8 0] kad.length) 5) = W := ⟨_, rfl⟩
    rw [hW] at hmk
    have HBW := Lib.hid (show Below w2.heap.size w2 W by rw [← hW]; exact Below.one _ _)
    have HRW := Lib.hid (show W.rowIs w2.heap.size 5 kad.length (fillV kad 0) by
      rw [← hW]
      refine (World.rowIs_made w2 (.int .u8 0) kad.length 5).congr fun i _ => ?_
      unfold fillV
      rw [if_neg (by omega)])
    clear hW
    go_wp2
    go_loopg [7] kad.length (fun kx s7 wr => ∃ k : Nat, k ≤ kad.length ∧ kad.length - k ≤ kx ∧ s7 = .int .i64 k ∧ Aside (wr.rowIs w2.heap.size 5 kad.length (fillV kad k)) ∧ Aside (Below w2.heap.size w2 wr))
    case atStart => exact ⟨0, by omega, by omega, rfl, HRW.out, HBW.out⟩
    case round =>
      clear HRW hmk HBW
      obtain ⟨k, hk, hg, rfl, HR, HB⟩ := hrel
      by_cases hlt : k < kad.length
      · have km : k < kms.length := by have := HE.out; omega
        obtain ⟨pA, eA, cA⟩ := ((HRa.out.below HB2.out).below HB.out).byte hlt
        obtain rfl := Option.some.inj eA
        obtain ⟨pM, eM, cM⟩ := ((HRm.out.below HB2.out).below HB.out).byte km
        obtain rfl := Option.some.inj eM
        clear eA eM
        have km' : (k : Int) < (kms.length : Int) := by omega
        have ho := HR.out.cell hlt
        have hf := HR.out.frozen k
        have HV := Lib.hid ((and_is (kad[k]'hlt) (kms[k]'km)).trans (by rw [HZ.out k hlt km]))
        go_wp2
        go_still_tail 12, (by kernel_rfl)
        change wpList _ _ _ _ _ wr.drew
        go_wp2
        go_roundg (kad.length - (k + 1))
        case measure => omega
        case rel => exact ⟨k + 1, by omega, by omega, by go_num, fill_next HR.out.drew hlt HV.out, (HB.out.drew).setCell (Nat.le_refl _) _⟩
      · obtain rfl : k = kad.length := by omega
        have F : Hid (MaskPost kad w (.returned (.slice (some ⟨w2.heap.size, 0, none⟩) kad.length kad.length)) wr) := ⟨_, rfl, Rd.filled HR.out rfl, HB2.out.trans (HB.out.mono HB2.out.size)⟩
        clear HB HR HRa HRm HZ
        go_wp2
        go_ret
        exact F.out
/-- A text made of bytes that lie in a row. -/
theorem conv_back (w : World) (A : Option Addr) (cap : Nat) (l : List UInt8) (n : Nat) (hn : n = l.length) (hr : Rd w A (u8s l)) :
    (convert 22 9 (.slice A n cap)).run Try.prog w = .ok (.string (ofBytes l)) w := by
  subst hn
  cases A with
  | some a =>
    refine run_convert_bytes_back w 22 9 5 a cap l Try.underlying22 Try.underlying5 Try.underlying9 fun j hj => ?_
    obtain ⟨ad, he, _, hc⟩ := hr j (.int .u8 (l[j].toNat : Int)) (by simp [u8s, hj])
    obtain rfl := Option.some.inj he
    exact hc
  | none =>
    cases l with
    | nil =>
      rw [run_convert_bytes_string w 22 9 5 none _ cap Try.underlying22 Try.underlying5 Try.underlying9]
      rfl
    | cons c r =>
      obtain ⟨ad, he, _⟩ := hr 0 (.int .u8 (c.toNat : Int)) (by simp [u8s])
      cases he

theorem bytesEqual_any (A B : Option Addr) (n m c d : Nat) (l : List UInt8) (w : World) (hn : n = l.length) (hm : m = l.length) (ha : Rd w A (u8s l)) (hb : Rd w B (u8s l)) :
    Calls Try.prog 55 #[.slice A n c, .slice B m d] w (Same (.bool true) w) := by
  have h1 := conv_back w A c l n hn ha
  have h2 := conv_back w B d l m hm hb
  clear ha hb hn hm
  go_enter Try.func55, Try.ntmps55
  go_wp2
  go_ret
  exact ⟨rfl, rfl⟩
theorem ipEqual_any (A B : Option Addr) (n m c d : Nat) (l : List UInt8) (w : World) (hn : n = l.length) (hm : m = l.length) (ha : Rd w A (u8s l)) (hb : Rd w B (u8s l)) :
    Calls Try.prog 43 #[.slice A n c, .slice B m d] w (Same (.bool true) w) := by
  have HC := Lib.hid (bytesEqual_any A B n m c d l w hn hm ha hb)
  have h1 : ((n : Int) == (m : Int)) = true := by rw [hn, hm, beq_self_eq_true]
  clear ha hb hn hm
  go_enter Try.func43, Try.ntmps43
  go_wp2_with ((with_reducible refine HC.out.mono ?_); rintro e w1 ⟨rfl, rfl⟩)
  go_ret
  exact ⟨rfl, rfl⟩
end Go.Proofs.Ytgaolfbbfdojjaa
