/-
  Walks over a row of texts: Joined, Turned; a parameter of texts opened.
-/
import Derived.Test.YtdnbbodolpgphaaW18
namespace Go.Proofs.Ytdnbbodolpgphaa
open Go.ChangeShapes Go.WideShapes Go.ChangeAt Go.RowKit

theorem cell_lt {w : World} {a : Addr} {v : Value} (h : w.cell? a = some v) : a.block < w.heap.size := by
  rcases Nat.lt_or_ge a.block w.heap.size with hlt | hge
  · exact hlt
  · unfold World.cell? at h
    rw [Array.getElem?_eq_none hge] at h
    cases h
theorem cells_string : Try.prog.cellsOf 9 = 1 := by kernel_rfl
theorem opened_strings {H : Type} {enc : TypeId × Value → H} {W : World} {sp : Nat → Bool} {base : Nat} {v : Value} {d : DataW H} {p : List MemPlace} (hval : Value.okWide Try.prog W .any base 24 v) (h : DataW.Trod enc Try.prog W 0 sp true 24 v d p) :
    ∃ (A : Option Addr) (n c : Nat) (bs : List ByteArray), v = .slice A n c ∧ n = bs.length ∧ n ≤ maxLen ∧ (∀ x ∈ bs, x.size ≤ maxLen) ∧ Rd W A (Go.Proofs.Ytdnbbodolpgphaa.strs bs) := by
  obtain ⟨A, n, c, rfl⟩ := okWide_slice Try.underlying24 hval
  obtain ⟨fuel, hf⟩ := h
  rcases open_strings Try.underlying24 Try.underlying9 cells_string hf with ⟨hcs, -⟩ | ⟨a, len', cap', ss, hcs, -, hl, hm, hz, -, hcell, hws⟩
  · simp [Value.cells] at hcs
    obtain ⟨rfl, rfl, rfl⟩ := hcs
    exact ⟨none, 0, 0, [], rfl, rfl, Nat.zero_le _, fun x hx => by simp at hx, Rd.nil _ _⟩
  · simp [Value.cells] at hcs
    obtain ⟨rfl, rfl, rfl⟩ := hcs
    have hsl : n ≤ ss.length := by rw [hz]; split <;> omega
    refine ⟨some a, n, c, ss.take n, rfl, by rw [List.length_take]; omega, by omega, fun x hx => hws x (List.mem_of_mem_take hx), fun i v hv => ?_⟩
    have hi : i < (ss.take n).length := by
      have := (List.getElem?_eq_some_iff.1 hv).1
      rwa [strs_length] at this
    have hi2 : i < ss.length := by rw [List.length_take] at hi; omega
    rw [strs_get hi] at hv
    obtain rfl := Option.some.inj hv
    have hc := hcell i hi2
    have e : ss.getD i ByteArray.empty = (ss.take n)[i] := by
      rw [List.getElem_take, List.getD, List.getElem?_eq_getElem hi2]; rfl
    rw [e] at hc
    exact ⟨a, rfl, by have := cell_lt hc; rwa [add_block] at this, hc⟩

/-- What Joined has behind k texts. -/
def JInv (bs : List ByteArray) (k : Nat) (d : ByteArray) : Prop := (k = 0 → d.size = 0) ∧ (0 < k → labelsB (bytes d) = bs.take k ∧ ∀ c ∈ bytes d, visB c.toNat = true)
theorem seen_bytes {x : ByteArray} (h : seenP x) : (∀ c ∈ bytes x, c ≠ 46) ∧ ∀ c ∈ bytes x, visB c.toNat = true := by
  have : ∀ c ∈ bytes x, visB c.toNat = true ∧ c ≠ 46 := fun c hc => by
    obtain ⟨j, hj, rfl⟩ := List.getElem_of_mem hc
    have hj' : j < x.size := by rw [← bytes_length]; exact hj
    rw [bytes_ix x j hj' hj]
    exact h.2 j hj'
  exact ⟨fun c hc => (this c hc).2, fun c hc => (this c hc).1⟩
theorem JInv.first {bs : List ByteArray} {d : ByteArray} (h : JInv bs 0 d) (hk : 0 < bs.length) (hx : seenP bs[0]) : JInv bs 1 (d ++ bs[0]) := by
  refine ⟨fun h => by omega, fun _ => ?_⟩
  have hd : bytes d = [] := List.eq_nil_of_length_eq_zero (by rw [bytes_length]; exact h.1 rfl)
  obtain ⟨h1, h2⟩ := seen_bytes hx
  rw [bytes_append, hd, List.nil_append]
  refine ⟨?_, h2⟩
  unfold labelsB
  rw [splitDot_noDot _ h1, List.take_succ_eq_append_getElem hk]
  simp [ofBytes_bytes]
theorem JInv.first' {bs : List ByteArray} {d : ByteArray} {k : Nat} (h : JInv bs k d) (h0 : k = 0) (hk : k < bs.length) (hx : seenP bs[k]) : JInv bs (k + 1) (d ++ bs[k]) := by
  subst h0
  exact h.first hk hx
theorem JInv.next {bs : List ByteArray} {d : ByteArray} {k : Nat} (h : JInv bs k d) (h0 : 0 < k) (hk : k < bs.length) (hx : seenP bs[k]) : JInv bs (k + 1) ((d ++ ⟨#[46]⟩) ++ bs[k]) := by
  refine ⟨fun h => by omega, fun _ => ?_⟩
  obtain ⟨h1, h2⟩ := seen_bytes hx
  obtain ⟨h3, h4⟩ := h.2 h0
  have e : bytes ((d ++ ⟨#[46]⟩) ++ bs[k]) = bytes d ++ 46 :: bytes bs[k] := by rw [bytes_append, bytes_append, List.append_assoc]; rfl
  rw [e, labelsB, splitDot_append, splitDot_noDot _ h1, List.map_append, ← labelsB, h3, List.take_succ_eq_append_getElem hk]
  refine ⟨by simp [ofBytes_bytes], fun c hc => ?_⟩
  rcases List.mem_append.1 hc with hc | hc
  · exact h4 c hc
  · rcases List.mem_cons.1 hc with rfl | hc
    · rfl
    · exact h2 c hc
def JoinPost (bs : List ByteArray) (w : World) (e : Ending) (w' : World) : Prop :=
  ∃ d : ByteArray, e = .returned (.string d) ∧ d.size ≤ 6100 ∧ labelsB (bytes d) = bs ∧ (∀ c ∈ bytes d, visB c.toNat = true) ∧ w = w'
set_option maxHeartbeats 1000000 in
theorem joined_any (A : Option Addr) (n c : Nat) (bs : List ByteArray) (w : World) (h0 : 0 < bs.length) (h100 : bs.length ≤ 100) (hs : ∀ j (h : j < bs.length), seenP (bs[j]) ∧ (bs[j]).size ≤ 60) (hn : n = bs.length) (hr : Rd w A (strs bs)) :
    Calls Try.prog 40 #[.slice A n c] w (JoinPost bs w) := by
  subst hn
  have HR := Lib.hid hr
  have HS := Lib.hid hs
  clear hr hs
  go_enter Try.func40, Try.ntmps40
  go_wp2
  go_loopg [3, 8] bs.length (fun kx s i wr => w = wr ∧ ∃ (k : Nat) (d : ByteArray), k ≤ bs.length ∧ bs.length - k ≤ kx ∧ i = .int .i64 k ∧ s = .string d ∧ d.size ≤ k * 61 ∧ Aside (JInv bs k d))
  case atStart => exact ⟨rfl, 0, ByteArray.empty, by omega, by omega, rfl, rfl, by simp, ⟨fun _ => rfl, fun h => by omega⟩⟩
  case round =>
    obtain ⟨rfl, k, d, hk, hg, rfl, rfl, hd, Q⟩ := hrel
    by_cases hlt : k < bs.length
    · obtain ⟨ad1, rfl, h1l, hc1⟩ := HR.out k _ (strs_get hlt)
      obtain ⟨hx1, hx2⟩ := HS.out k hlt
      by_cases hk0 : k = 0
      · have Q2 : Aside (JInv bs (k + 1) (d ++ bs[k])) := Q.out.first' hk0 hlt hx1
        have hsz : (d ++ bs[k]).size ≤ (k + 1) * 61 := by rw [ByteArray.size_append]; omega
        have HSZ := Lib.hid hsz
        have hk0' : decide (0 < k) = false := decide_eq_false (by omega)
        clear Q HS hx1 hsz hk0
        generalize bs[k] = x at *
        go_wp2
        go_roundg (bs.length - (k + 1))
        case measure => omega
        case rel => exact ⟨rfl, k + 1, _, by omega, by omega, by go_num, rfl, HSZ.out, Q2⟩
      · have Q2 : Aside (JInv bs (k + 1) ((d ++ ⟨#[46]⟩) ++ bs[k])) := Q.out.next (by omega) hlt hx1
        have hsz : ((d ++ ⟨#[46]⟩) ++ bs[k]).size ≤ (k + 1) * 61 := by simp [ByteArray.size_mk']; omega
        have HSZ := Lib.hid hsz
        have hkp : 0 < k := by omega
        clear Q HS hx1 hsz
        generalize bs[k] = x at *
        go_wp2
        go_roundg (bs.length - (k + 1))
        case measure => omega
        case rel => exact ⟨rfl, k + 1, _, by omega, by omega, by go_num, rfl, HSZ.out, Q2⟩
    · have F := Lib.hid (Q.out.2 (by omega))
      have hz : d.size ≤ 6100 := by omega
      clear Q HS
      go_wp2
      go_ret
      refine ⟨d, rfl, hz, ?_, F.out.2, rfl⟩
      have := F.out.1
      rwa [List.take_of_length_le (by omega)] at this

def RowPost (bs : List ByteArray) (w : World) (e : Ending) (w' : World) : Prop :=
  ∃ v, e = .returned v ∧ w'.ownsRow w.heap.size 9 1 v bs.length (strs bs) ∧ Below w.heap.size w w'
set_option maxHeartbeats 2000000 in
theorem turned_any (A : Option Addr) (n c : Nat) (bs : List ByteArray) (w : World) (h100 : bs.length ≤ 100) (hn : n = bs.length) (hr : Rd w A (strs bs)) :
    Calls Try.prog 41 #[.slice A n c] w (RowPost bs.reverse w) := by
  have hmax : (2147483648 : Nat) ≤ maxLen := by unfold maxLen; omega
  obtain ⟨i0, hi, hz0, hz1, hz2⟩ := info_parts info_string
  subst hn
  have HR := Lib.hid hr
  clear hr
  go_enter Try.func41, Try.ntmps41
  go_wp2
  go_loopg [3, 4] bs.length (fun kx v i wr => ∃ k : Nat, k ≤ bs.length ∧ k ≤ kx ∧ i = .int .i64 ((k : Int) - 1) ∧ wr.ownsRow w.heap.size 9 1 v (bs.drop k).reverse.length (strs (bs.drop k).reverse) ∧ Below w.heap.size w wr)
  case atStart => exact ⟨bs.length, by omega, by omega, rfl, by rw [List.drop_length]; exact World.ownsRow_made w #[] 0 (Nat.le_refl _) (by omega) rfl, Below.one _ _⟩
  case round =>
    obtain ⟨k, hk, hg, rfl, hown, hb⟩ := hrel
    have hsz := hb.size
    by_cases hpos : 0 < k
    · obtain ⟨m, rfl⟩ : ∃ m, k = m + 1 := ⟨k - 1, by omega⟩
      have hlt : m < bs.length := by omega
      obtain ⟨ad1, rfl, h1l, hc1⟩ := (HR.out.below hb) m _ (strs_get hlt)
      have hdr : (bs.drop m).reverse = (bs.drop (m + 1)).reverse ++ [bs[m]] := by
        rw [List.drop_eq_getElem_cons hlt, List.reverse_cons]
      have HDR := Lib.hid hdr
      have hrl : (bs.drop (m + 1)).reverse.length + 1 ≤ 100 := by simp; omega
      clear hdr
      have hm1 : ((m + 1 : Nat) : Int) - 1 = (m : Int) := by omega
      rw [hm1]
      generalize bs[m] = x at *
      generalize (bs.drop (m + 1)).reverse = acc at *
      go_wp2_with (at_builtin; refine wpList_append_own _ rfl _ _ 24 rfl w.heap.size 9 i0 _ 1 16 Try.underlying24 hi hz0 hz1 hz2 rfl (by decide) _ _ _ rfl (hown.alloc _) ⟨wr.heap.size, 0, none⟩ 1 1 [.string x] rfl rfl ?a1 ?a2 ?a3 ?a4 ?a5 ?_)
      case a1 =>
        intro j u hj
        match j, hj with
        | 0, hj => simp at hj; subst hj; simp [Addr.add]
      case a2 => intro u hu; simp at hu; subst hu; rfl
      case a3 => omega
      case a4 => omega
      case a5 => simp; omega
      intro v' w1 hown' hgrow _
      have hb1 : Below w.heap.size w w1 := (hb.alloc hsz _).grown hgrow (by simp; omega) (fun k hk => (hown.lt k hk).1)
      have hown2 := Lib.hid (own_snoc hown')
      clear hown' hgrow hown hb
      go_wp2
      go_roundg m
      case measure => omega
      case rel => exact ⟨m, by omega, by omega, by go_num, by rw [HDR.out]; exact hown2.out, hb1⟩
    · obtain rfl : k = 0 := by omega
      rw [List.drop_zero] at hown
      go_wp2
      go_ret
      exact ⟨_, rfl, hown, hb⟩
end Go.Proofs.Ytdnbbodolpgphaa
