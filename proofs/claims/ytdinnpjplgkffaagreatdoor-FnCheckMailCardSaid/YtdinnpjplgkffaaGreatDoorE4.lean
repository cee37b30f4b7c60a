/-
  Walks: slices.Clone of texts, strings.ToLower, newDNSConstraints where no constraint is nothing.
-/
import Derived.Test.YtdinnpjplgkffaaGreatDoorE3
import Derived.Maps.OwnSet
import Derived.Lib.SliceRun
import Derived.Shelf.Strings.OnBuilder
namespace Go.Proofs.YtdinnpjplgkffaaGreatDoor
open Go.ChangeShapes Go.WideShapes Go.ChangeAt Go.RowKit Go.Maps

def CloneP (L : List ByteArray) (w : World) (e : Ending) (w' : World) : Prop := ∃ v, e = .returned v ∧ OwnT w' w.heap.size v L ∧ Below w.heap.size w w'
set_option maxRecDepth 100000 in
set_option maxHeartbeats 1000000 in
theorem clone_any (ad : Addr) (n c : Nat) (L : List ByteArray) (w : World) (hn : n = L.length) (hl : L.length ≤ 2147483647) (hr : Rd w (some ad) (strs L)) :
    Calls Tryz.prog 55 #[.slice (some ad) n c] w (CloneP L w) := by
  subst hn
  have O0 : Hid (OwnT (w.alloc (.cells #[] 9)) w.heap.size (.slice (some ⟨w.heap.size, 0, none⟩) 0 0) []) := World.ownsRow_made w #[] 0 (Nat.le_refl _) (by omega) rfl
  have HR := Lib.hid (hr.below (Below.one w (.cells #[] 9)))
  have hl0 : ([] : List ByteArray).length + L.length ≤ 2147483647 := by simpa using hl
  have hsz : w.heap.size ≤ (w.alloc (.cells #[] 9)).heap.size := by simp
  have HB : Hid (Below w.heap.size w (w.alloc (.cells #[] 9))) := Below.one _ _
  have hE := fun wx a n c n' c' => Go.Lib.run_eql_slice_nil (P := Tryz.prog) wx 22 9 a n c n' c' Tryz.underlying22
  clear hr
  go_enter Tryz.func55, Tryz.ntmps55
  go_wp2_with (at_builtin; refine wpList_more_texts rfl (.tmp 5) (.tmp 6) rfl w.heap.size _ [] (some ad) L.length c L rfl O0.out rfl rfl (fun e => (by cases e)) HR.out hl0 hsz ?_)
  intro v' w' hown hb
  have F : Hid (CloneP L w (.returned v') w') := ⟨v', rfl, hown, HB.out.trans hb⟩
  clear hown hb
  go_wp2
  go_ret
  exact F.out
theorem extraLower : Go.Proofs.Builder.Extra Tryz.prog laidLower_ren where
  sizeBuilder := by kernel_rfl
  liesBuilder := by kernel_rfl
  t5 := laidLower.t5
  a5 := laidLower.a5
  z5 := laidLower.z5
  v5 := laidLower.v5
  infoByte := by kernel_rfl
  cellsByte := by kernel_rfl
  sizeByte := by kernel_rfl
  neB5 := by decide
def LowP (w : World) (e : Ending) (w' : World) : Prop := ∃ s : ByteArray, e = .returned (.string s) ∧ s.size ≤ 2147483647 ∧ Below w.heap.size w w'
theorem strLower_any (s : ByteArray) (hs : s.size ≤ 2147483647) (ha : NameBytes (bytes s)) (w : World) : Calls Tryz.prog 39 #[.string s] w (LowP w) := by
  have h := Go.Proofs.Any.strings_ToLower_ascii laidLower extraLower s w (by omega) (fun j b hb => by
    rcases ha b (List.mem_of_getElem? hb) with e | e
    · rw [e]; decide
    · unfold okByte low at e
      simp at e
      have := b.toNat_lt
      repeat (split at e <;> try omega))
  change Calls Tryz.prog 39 _ _ _ at h
  refine h.mono fun e w' h => ?_
  obtain ⟨rfl, hb⟩ := h
  refine ⟨_, rfl, ?_, hb⟩
  show (Lib.toLowerA s.data.toList).toArray.size ≤ _
  have : (Lib.toLowerA s.data.toList).length = s.data.toList.length := by simp [Lib.toLowerA]
  rw [List.size_toArray, this]
  simpa using hs
end Go.Proofs.YtdinnpjplgkffaaGreatDoor
