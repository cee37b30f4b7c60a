/-
  Small facts for the laws with more lists. No condition.
-/
import Derived.Test.YtdinnpjplgkffaaGreatDoorE7
namespace Go.Proofs.YtdinnpjplgkffaaGreatDoor
open Go.ChangeShapes Go.WideShapes Go.ChangeAt Go.RowKit

theorem names_list {L : List ByteArray} (h : listP L) : NamesE L := fun y hy => by
  have := h.1 y hy
  unfold nameL at this
  rw [Bool.and_eq_true] at this
  exact .inr this.1
theorem hasSuf_self {x : ByteArray} (hx : nameOk (bytes x) = true) : hasSufL (bytes x) (bytes x) = true := by
  rw [hasSuf_names hx hx]
  unfold sameL
  simp
theorem rd_one (W : World) (x : ByteArray) (T : TypeId) : Rd (W.alloc (.cells #[.string x] T)) (some ⟨W.heap.size, 0, none⟩) (strs [x]) := Rd.new W #[.string x] T
theorem beyond4 (x y z t : Nat) (b : Bool) (hb : (decide (1048576 < x) || decide (1048576 < y) || decide (1048576 < z) || decide (1048576 < t)) = b) (W : World) :
    Calls Tryz.prog 5 #[.slice (some ⟨W.heap.size, 0, none⟩) 4 4] (W.alloc (.cells #[.int .i64 (x : Int), .int .i64 (y : Int), .int .i64 (z : Int), .int .i64 (t : Int)] 3)) fun e w' => e = .returned (.bool b) ∧ W.alloc (.cells #[.int .i64 (x : Int), .int .i64 (y : Int), .int .i64 (z : Int), .int .i64 (t : Int)] 3) = w' := by
  refine (beyond_any [(x : Int), (y : Int), (z : Int), (t : Int)] (some ⟨W.heap.size, 0, none⟩) 4 4 _ rfl (by omega) (Rd.new _ _ _)).mono ?_
  rintro e w' ⟨rfl, rfl⟩
  exact ⟨ret_bool (by rw [← hb]; simp [cast_lt, Bool.or_assoc]), rfl⟩
end Go.Proofs.YtdinnpjplgkffaaGreatDoor
