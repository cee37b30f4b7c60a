/-
  Walks: laws.dns, spec.Of: what constraints say of a name.
-/
import Derived.Test.YtdinnpjplgkffaaDoorD2
namespace Go.Proofs.YtdinnpjplgkffaaDoor
open Go.ChangeShapes Go.WideShapes Go.ChangeAt Go.RowKit

def saysD (c n : ByteArray) : Int := dnsV (bytes c) (bytes n)
set_option maxHeartbeats 1000000 in
theorem dns1_any (c n : ByteArray) (g : Nat) (hc : c.size ≤ 2147483647) (hn : n.size ≤ 2147483647) (w : World) (hcell : w.cell? ⟨g, 0, none⟩ = some (.string n)) :
    Calls Tryd.prog 39 #[.string c, .pointer (some ⟨g, 0, none⟩)] w (Ret (.int .i64 (saysD c n)) w) := by
  have H := Lib.hid (fun W => specDNS_any c n hc hn W)
  unfold saysD
  go_enter Tryd.func39, Tryd.ntmps39
  go_wp2_with ((with_reducible refine (H.out _).mono ?_); rintro e w1 ⟨rfl, hb1⟩)
  go_ret
  exact ⟨rfl, hb1⟩
set_option maxRecDepth 100000 in
set_option maxHeartbeats 1000000 in
theorem of_any (B : Option Addr) (m d : Nat) (bs : List ByteArray) (x : ByteArray) (g : Nat) (w : World) (hm : m = bs.length) (hf : fitsP bs) (hx : x.size ≤ 2147483647) (hr : Rd w B (strs bs)) (hcell : w.cell? ⟨g, 0, none⟩ = some (.string x)) :
    Calls Tryd.prog 38 #[.slice B m d, .func (.func 39) #[] #[.pointer (some ⟨g, 0, none⟩)]] w (SaysPost (bs.map fun c => saysD c x) w) := by
  subst hm
  have HR := Lib.hid hr
  have HF := Lib.hid hf.2
  have hle := hf.1
  have HC := Lib.hid hcell
  have HG : Hid (g < w.heap.size) := cell_lt hcell
  have O0 : Aside ((w.alloc (.cells #[] 3)).ownsRow w.heap.size 3 1 (.slice (some ⟨w.heap.size, 0, none⟩) 0 0) 0 (ints [])) := World.ownsRow_made w #[] 0 (Nat.le_refl _) (by omega) rfl
  obtain ⟨X, hX⟩ : ∃ X, X = bs.map fun c => saysD c x := ⟨_, rfl⟩
  have hxl : X.length = bs.length := by rw [hX, List.length_map]
  have hxk : ∀ k (h : k < bs.length) (h2 : k < X.length), X[k] = saysD bs[k] x := fun k h h2 => by subst hX; rw [List.getElem_map]
  rw [← hX]
  have HXL := Lib.hid hxl
  have HXK := Lib.hid hxk
  clear hr hf hcell hX hxl hxk
  go_enter Tryd.func38, Tryd.ntmps38
  go_wp2
  go_loopg [5, 11] bs.length (fun kx s5 s11 wr => ∃ k : Nat, s11 = .int .i64 k ∧ k ≤ bs.length ∧ bs.length - k ≤ kx ∧ Aside (wr.ownsRow w.heap.size 3 1 s5 k (ints (X.take k))) ∧ Aside (Below w.heap.size w wr))
  case atStart => exact ⟨0, rfl, by omega, by omega, O0, Below.one _ _⟩
  case round =>
    clear O0
    obtain ⟨k, rfl, hk, hg, HO, HW⟩ := hrel
    by_cases hlt : k < bs.length
    · obtain ⟨ad, rfl, h1l, hc1⟩ := (HR.out.below HW.out) k _ (strs_get hlt)
      have hck := HF.out k hlt
      have hkx : k < X.length := by have := HXL.out; omega
      have hlen : (X.take k).length = k := by rw [List.length_take]; omega
      have HE : Hid (X.take (k + 1) = X.take k ++ [saysD bs[k] x]) := by
        show _ = _
        rw [List.take_succ_eq_append_getElem hkx, HXK.out k hlt hkx]
      have HD := Lib.hid (dns1_any bs[k] x g hck hx wr ((HW.out.cell (p := ⟨g, 0, none⟩) HG.out).trans HC.out))
      obtain ⟨row, hrow⟩ : ∃ row, row = X.take k := ⟨_, rfl⟩
      rw [← hrow] at HE hlen
      have HO2' := Lib.hid (show wr.ownsRow w.heap.size 3 1 u5 row.length (ints row) by rw [hrow, List.length_take, Nat.min_eq_left (by omega)]; exact HO.out)
      have HLn := Lib.hid hlen
      have hl2 : row.length ≤ 2147483647 := by omega
      generalize bs[k] = y at hc1 hck HE HD
      clear hlen hrow hkx HO
      go_wp2_with fail
      refine HD.out.mono ?_
      rintro e w1 ⟨rfl, hb1⟩
      have HB1 := Lib.hid hb1
      have HO1 : Hid (w1.ownsRow w.heap.size 3 1 u5 row.length (ints row)) := by
        show World.ownsRow _ _ _ _ _ _ _
        refine World.ownsRow.kept (row := none) HO2'.out ⟨HB1.out.os, HB1.out.tape, HB1.out.output, HB1.out.size, fun k hk _ => HB1.out.block k hk⟩ ?_
        cases e : u5.ownBlock
        · exact .inl rfl
        · exact .inr (by simp)
      have hsz : w.heap.size ≤ w1.heap.size := Nat.le_trans HW.out.size HB1.out.size
      clear hb1 HO2'
      go_wp2_with (at_builtin; refine wpList_push_int rfl (.tmp 15) (.tmp 19) rfl w.heap.size _ row (saysD y x) rfl HO1.out rfl hl2 hsz ?_)
      intro v' w2 hown hb2
      rw [HLn.out, ← HE.out] at hown
      have HO2 := Lib.hid hown
      have HW2 := Lib.hid (HW.out.trans ((HB1.out.mono HW.out.size).trans hb2))
      clear hown hb2 HO1 HB1
      go_wp2
      go_roundg (bs.length - (k + 1))
      case measure => omega
      case rel => exact ⟨k + 1, by go_num, by omega, by omega, HO2.out, HW2.out⟩
    · obtain rfl : k = bs.length := by omega
      have F : Hid (SaysPost X w (.returned u5) wr) := by
        have h := HO.out
        rw [← HXL.out, List.take_length] at h
        obtain ⟨A, cap, e, -, -, hrd, -⟩ := Rd.own h
        exact ⟨A, cap, by rw [e], hrd, HW.out⟩
      clear HO
      go_wp2
      go_ret
      exact F.out
set_option maxHeartbeats 1000000 in
theorem lawsDns_any (B : Option Addr) (m d : Nat) (bs : List ByteArray) (x : ByteArray) (w : World) (hm : m = bs.length) (hf : fitsP bs) (hx : x.size ≤ 2147483647) (hr : Rd w B (strs bs)) :
    Calls Tryd.prog 20 #[.slice B m d, .string x] w (SaysPost (bs.map fun c => saysD c x) w) := by
  have HB := Lib.hid (Below.one w (.cells #[.string x] 9))
  have HO := Lib.hid (of_any B m d bs x w.heap.size (w.alloc (.cells #[.string x] 9)) hm hf hx (hr.below HB.out) (by rw [blk_cell (blk_new w _)]; rfl))
  generalize (bs.map fun c => saysD c x) = X at HO ⊢
  clear hm hf hr
  go_enter Tryd.func20, Tryd.ntmps20
  go_wp2_with fail
  refine HO.out.mono ?_
  rintro e w1 ⟨A, c, rfl, hrd, hb⟩
  have F : Hid (SaysPost X w (.returned (.slice A X.length c)) w1) := ⟨A, c, rfl, hrd, HB.out.trans (hb.mono HB.out.size)⟩
  clear hrd hb
  go_wp2
  go_ret
  exact F.out
end Go.Proofs.YtdinnpjplgkffaaDoor
