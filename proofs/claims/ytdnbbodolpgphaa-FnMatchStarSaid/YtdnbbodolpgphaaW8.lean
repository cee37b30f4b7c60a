/-
  Walks: matchExactly, impl.Exactly. Texts of at most 2^31 bytes.
-/
import Derived.Test.YtdnbbodolpgphaaPNames
namespace Go.Proofs.Ytdnbbodolpgphaa
open Go.RowKit

set_option maxHeartbeats 1000000 in
/-- Where neither is nothing or a dot. -/
theorem matchExactly_any (a b : ByteArray) (ha : a.size ≤ 2147483647) (hb : b.size ≤ 2147483647) (a0 : a.toList ≠ []) (a1 : a.toList ≠ [46]) (b0 : b.toList ≠ []) (b1 : b.toList ≠ [46]) (w : World) :
    Calls Try.prog 64 #[.string a, .string b] w (Ret (.bool (sameL (bytes a) (bytes b))) w) := by
  have h1 := Lib.hid (fun W => toLower_any a ha W)
  have h2 := Lib.hid (fun W => toLower_any b hb W)
  have e : Hid (((ofBytes (lowL (bytes a))).toList == (ofBytes (lowL (bytes b))).toList) = sameL (bytes a) (bytes b)) := by
    show _ = _
    simp only [ofBytes, ByteArray.toList_mk, sameL]
    rw [Bool.eq_iff_iff]; simp
  generalize ofBytes (lowL (bytes a)) = x at *
  generalize ofBytes (lowL (bytes b)) = y at *
  have c1 : a.toList.isEmpty = false := by simpa using a0
  have c2 : (a.toList == [46]) = false := by simpa using a1
  have c3 : b.toList.isEmpty = false := by simpa using b0
  have c4 : (b.toList == [46]) = false := by simpa using b1
  clear a0 a1 b0 b1
  go_enter Try.func64, Try.ntmps64
  go_wp2_with (first | ((with_reducible refine (h1.out _).mono ?_); rintro e w1 ⟨rfl, hb1⟩) | ((with_reducible refine (h2.out _).mono ?_); rintro e w2 ⟨rfl, hb2⟩))
  go_ret
  exact ⟨ret_bool e.out, Below.next hb1 hb2⟩
theorem zzExactly_any (a b : ByteArray) (ha : a.size ≤ 2147483647) (hb : b.size ≤ 2147483647) (a0 : a.toList ≠ []) (a1 : a.toList ≠ [46]) (b0 : b.toList ≠ []) (b1 : b.toList ≠ [46]) (w : World) :
    Calls Try.prog 52 #[.string a, .string b] w (Ret (.bool (sameL (bytes a) (bytes b))) w) := by
  have h := Lib.hid (fun W => matchExactly_any a b ha hb a0 a1 b0 b1 W)
  clear a0 a1 b0 b1
  go_enter Try.func52, Try.ntmps52
  go_wp2_with (go_at_call 64; refine (h.out _).mono ?_; rintro e w' ⟨rfl, hb⟩)
  go_ret
  exact ⟨rfl, hb⟩
theorem implExactly_any (a b : ByteArray) (ha : a.size ≤ 2147483647) (hb : b.size ≤ 2147483647) (a0 : a.toList ≠ []) (a1 : a.toList ≠ [46]) (b0 : b.toList ≠ []) (b1 : b.toList ≠ [46]) (w : World) :
    Calls Try.prog 28 #[.string a, .string b] w (Ret (.bool (sameL (bytes a) (bytes b))) w) := by
  have h := Lib.hid (fun W => zzExactly_any a b ha hb a0 a1 b0 b1 W)
  clear a0 a1 b0 b1
  go_enter Try.func28, Try.ntmps28
  go_wp2_with (go_at_call 52; refine (h.out _).mono ?_; rintro e w' ⟨rfl, hb⟩)
  go_ret
  exact ⟨rfl, hb⟩

/-- A name of a host is neither nothing nor a dot. -/
theorem nameOk_not {s : ByteArray} (h : nameOk (bytes s) = true) : s.toList ≠ [] ∧ s.toList ≠ [46] := by
  obtain ⟨c, r, e, hc⟩ := nameOk_head h
  rw [ByteArray.toList_eq]
  change s.data.toList = c :: r at e
  rw [e]
  exact ⟨by simp, by intro h; simp at h; exact hc h.1⟩
theorem lowL_lowL (l : List UInt8) : lowL (lowL l) = lowL l := by
  unfold lowL
  rw [List.map_map]
  refine List.map_congr_left fun c _ => ?_
  refine UInt8.toNat_inj.1 ?_
  simp only [Function.comp, lowB_toNat]
  unfold low; repeat (split <;> try omega)
end Go.Proofs.Ytdnbbodolpgphaa
