/-
  Walks: spec.atom, spec.LocalOk, spec.QuotedOk. Texts of at most 2^31 bytes.
-/
import Derived.Test.YtdinnpjplgkffaaGreatDoorW14
import Derived.Lib.SlBytesConst
namespace Go.Proofs.YtdinnpjplgkffaaGreatDoor
open Go.RowKit
set_option maxRecDepth 100000

def atomS : List UInt8 := [33, 35, 36, 37, 38, 39, 42, 43, 45, 47, 61, 63, 94, 95, 96, 123, 124, 125, 126]
/-- Letters, digits and signs of a local part without quotes. -/
def atomC (c : UInt8) : Bool := (decide (97 ≤ low c.toNat) && decide (low c.toNat ≤ 122)) || (decide (48 ≤ low c.toNat) && decide (low c.toNat ≤ 57)) || atomS.contains c
theorem atomS_len : atomS.length = 19 := rfl
theorem atomS_cells : (u8s atomS) = [.int .u8 33, .int .u8 35, .int .u8 36, .int .u8 37, .int .u8 38, .int .u8 39, .int .u8 42, .int .u8 43, .int .u8 45, .int .u8 47, .int .u8 61, .int .u8 63, .int .u8 94, .int .u8 95, .int .u8 96, .int .u8 123, .int .u8 124, .int .u8 125, .int .u8 126] := rfl
theorem u8s_get {l : List UInt8} {i : Nat} (h : i < l.length) : (u8s l)[i]? = some (.int .u8 ((l[i]).toNat : Int)) := by
  unfold u8s
  rw [List.getElem?_map, List.getElem?_eq_getElem h]
  rfl
theorem Rd.newF (w : World) (cs : Array Value) (T : TypeId) (fr : Nat × Nat) : Rd (w.alloc (.cells cs T fr)) (some ⟨w.heap.size, 0, none⟩) cs.toList := fun i v hv => by
  refine ⟨_, rfl, by simp, ?_⟩
  rw [show (⟨w.heap.size, 0, none⟩ : Addr).add i = ⟨w.heap.size, i, none⟩ by simp [Addr.add]; intro h; exact h.symm, World.cell?_alloc_mark]
  simpa using hv
set_option maxHeartbeats 1000000 in
theorem atom_any (c : UInt8) (w : World) : Calls Tryz.prog 25 #[.int .u8 (c.toNat : Int)] w (Ret (.bool (atomC c)) w) := by
  have HL := Lib.hid (fun W => lower_any c W)
  have hlo := lowB_toNat c
  by_cases h1 : 97 ≤ low c.toNat ∧ low c.toNat ≤ 122
  · have F : Hid (atomC c = true) := by
      show _ = _
      unfold atomC; simp [h1.1, h1.2]
    obtain ⟨h1, h2⟩ := h1
    rw [← hlo] at h1 h2
    clear hlo
    generalize (lowB c).toNat = m at *
    go_enter Tryz.func25, Tryz.ntmps25
    go_wp2_with ((with_reducible refine (HL.out _).mono ?_); rintro e w1 ⟨rfl, rfl⟩)
    go_ret
    exact ⟨ret_bool F.out.symm, Below.refl _ _⟩
  by_cases h2 : 48 ≤ low c.toNat ∧ low c.toNat ≤ 57
  · have F : Hid (atomC c = true) := by
      show _ = _
      unfold atomC; simp [h2.1, h2.2]
    obtain ⟨h2, h3⟩ := h2
    rw [← hlo] at h2 h3
    clear hlo h1
    generalize (lowB c).toNat = m at *
    go_enter Tryz.func25, Tryz.ntmps25
    go_wp2_with ((with_reducible refine (HL.out _).mono ?_); rintro e w1 ⟨rfl, rfl⟩)
    go_ret
    exact ⟨ret_bool F.out.symm, Below.refl _ _⟩
  have E : Hid (atomC c = atomS.contains c) := by
    show _ = _
    unfold atomC
    have e1 : (decide (97 ≤ low c.toNat) && decide (low c.toNat ≤ 122)) = false := by
      rw [← Bool.decide_and]; exact decide_eq_false h1
    have e2 : (decide (48 ≤ low c.toNat) && decide (low c.toNat ≤ 57)) = false := by
      rw [← Bool.decide_and]; exact decide_eq_false h2
    rw [e1, e2]; simp
  have hcs : (122 < (lowB c).toNat) ∨ (58 ≤ (lowB c).toNat ∧ (lowB c).toNat < 97) ∨ (lowB c).toNat < 48 := by omega
  clear h1 h2 hlo
  have HR0 : Aside (Rd (w.alloc (.cells #[.int .u8 33, .int .u8 35, .int .u8 36, .int .u8 37, .int .u8 38, .int .u8 39, .int .u8 42, .int .u8 43, .int .u8 45, .int .u8 47, .int .u8 61, .int .u8 63, .int .u8 94, .int .u8 95, .int .u8 96, .int .u8 123, .int .u8 124, .int .u8 125, .int .u8 126] 5 (19, 20))) (some ⟨w.heap.size, 0, none⟩) (u8s atomS)) := Rd.newF w _ _ _
  have hconv : (convert 70 70 (.slice (some ⟨w.heap.size, 0, none⟩) 19 19)).run Tryz.prog (w.alloc (.cells #[.int .u8 33, .int .u8 35, .int .u8 36, .int .u8 37, .int .u8 38, .int .u8 39, .int .u8 42, .int .u8 43, .int .u8 45, .int .u8 47, .int .u8 61, .int .u8 63, .int .u8 94, .int .u8 95, .int .u8 96, .int .u8 123, .int .u8 124, .int .u8 125, .int .u8 126] 5)) = .ok (.slice (some ⟨w.heap.size, 0, none⟩) 19 19) (w.alloc (.cells #[.int .u8 33, .int .u8 35, .int .u8 36, .int .u8 37, .int .u8 38, .int .u8 39, .int .u8 42, .int .u8 43, .int .u8 45, .int .u8 47, .int .u8 61, .int .u8 63, .int .u8 94, .int .u8 95, .int .u8 96, .int .u8 123, .int .u8 124, .int .u8 125, .int .u8 126] 5 (19, 20))) := Lib.run_convert_bytes_const w _ _ _ 19 19 Tryz.underlying70 Tryz.underlying5
  generalize (lowB c).toNat = m at *
  rcases hcs with h1 | ⟨h1, h2⟩ | h1
  all_goals
    go_enter Tryz.func25, Tryz.ntmps25
    go_wp2_with ((with_reducible refine (HL.out _).mono ?_); rintro e w1 ⟨rfl, rfl⟩)
    go_loopg [25] 19 (fun kx i wr => wr = w.alloc (.cells #[.int .u8 33, .int .u8 35, .int .u8 36, .int .u8 37, .int .u8 38, .int .u8 39, .int .u8 42, .int .u8 43, .int .u8 45, .int .u8 47, .int .u8 61, .int .u8 63, .int .u8 94, .int .u8 95, .int .u8 96, .int .u8 123, .int .u8 124, .int .u8 125, .int .u8 126] 5 (19, 20)) ∧ ∃ k : Nat, k ≤ 19 ∧ 19 - k ≤ kx ∧ i = .int .i64 k ∧ Aside (∀ j (h : j < atomS.length), j < k → c ≠ atomS[j]))
    case atStart => exact ⟨rfl, 0, by omega, by omega, rfl, fun j h h' => by omega⟩
    case round =>
      obtain ⟨rfl, k, hk, hg, rfl, Q⟩ := hrel
      by_cases hlt : k < 19
      · obtain ⟨ad, had, hadl, hc⟩ := HR0.out k _ (u8s_get (l := atomS) hlt)
        obtain rfl := Option.some.inj had
        have hadd : (⟨w.heap.size, 0, none⟩ : Addr).add k = ⟨w.heap.size, k, none⟩ := by simp [Addr.add]; intro h; exact h.symm
        rw [hadd] at hc
        have Q2 : Aside (c ≠ atomS[k]'hlt → ∀ j (h : j < atomS.length), j < k + 1 → c ≠ atomS[j]) := fun hx j h hj => by
          by_cases e : j < k
          · exact Q.out j h e
          · have : j = k := by omega
            subst this; exact hx
        have hmem := Lib.hid (List.getElem_mem (l := atomS) hlt)
        clear had hadl hadd Q
        generalize atomS[k]'hlt = x at *
        by_cases hx : c = x
        · have F : Hid (atomC c = true) := by
            show _ = _
            rw [E.out, hx]
            simpa using hmem.out
          have hb : ((c.toNat : Int) == (x.toNat : Int)) = true := by rw [hx]; simp
          clear hx Q2 hmem
          go_wp2
          go_ret
          exact ⟨ret_bool F.out.symm, Below.one _ _⟩
        · have hb : ((c.toNat : Int) == (x.toNat : Int)) = false := by
            simp only [beq_eq_false_iff_ne]
            intro h
            exact hx (UInt8.toNat_inj.1 (by omega))
          have Q3 := Lib.hid (Q2.out hx)
          clear hx Q2 hmem
          go_wp2
          go_roundg (19 - (k + 1))
          case measure => omega
          case rel => exact ⟨rfl, k + 1, by omega, by omega, by go_num, Q3.out⟩
      · have F : Hid (atomC c = false) := by
          show _ = _
          rw [E.out]
          have : ¬ c ∈ atomS := fun hm => by
            obtain ⟨j, hj, e⟩ := List.getElem_of_mem hm
            exact Q.out j hj (by have := atomS_len; omega) e.symm
          simpa using this
        clear Q
        go_wp2
        go_ret
        exact ⟨ret_bool F.out.symm, Below.one _ _⟩

/-- Bytes that may stand between quotes. -/
def quoB (c : UInt8) : Bool := c != 0 && c != 10 && c != 13 && decide (c.toNat ≤ 127)
def quoOk (l : List UInt8) : Prop := (∀ c ∈ l, quoB c = true) ∧ l.length ≤ 100
theorem beq_c {c d : UInt8} {n : Int} (hd : (d.toNat : Int) = n) : ((c.toNat : Int) == n) = (c == d) := by
  rw [← hd, Bool.eq_iff_iff]
  simp only [beq_iff_eq]
  exact ⟨fun h => UInt8.toNat_inj.1 (by omega), fun h => by rw [h]⟩
end Go.Proofs.YtdinnpjplgkffaaGreatDoor
