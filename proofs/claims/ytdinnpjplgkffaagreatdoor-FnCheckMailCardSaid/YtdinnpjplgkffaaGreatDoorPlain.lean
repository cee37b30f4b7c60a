/-
  The plain functions on lists of bytes that the walks speak of: letters in lower case, labels, names. Nothing of the program stands here. No condition.
-/
import GoSem.Core.Value
namespace Go.Proofs.YtdinnpjplgkffaaGreatDoor

def low (n : Nat) : Nat := if 65 ≤ n ∧ n ≤ 90 then n + 32 else n
def lowB (b : UInt8) : UInt8 := UInt8.ofNat (low b.toNat)
theorem low_lt (n : Nat) (h : n < 256) : low n < 256 := by unfold low; split <;> omega
theorem lowB_toNat (b : UInt8) : (lowB b).toNat = low b.toNat := by
  unfold lowB
  have := low_lt b.toNat b.toNat_lt
  simp [UInt8.toNat_ofNat']
  omega

/-- The bytes of a text. -/
def bytes (s : ByteArray) : List UInt8 := s.data.toList
theorem bytes_length (s : ByteArray) : (bytes s).length = s.size := by simp [bytes]
theorem bytes_get (s : ByteArray) (k : Nat) (h : k < s.size) : (bytes s)[k]? = some (s[k]) := by
  simp only [bytes]
  rw [Array.getElem?_toList]
  exact Array.getElem?_eq_getElem h
theorem bytes_inj {a b : ByteArray} (h : bytes a = bytes b) : a = b := by
  cases a; cases b; simp [bytes] at h; simp [h]
theorem bytes_extract (s : ByteArray) (a b : Nat) : bytes (s.extract a b) = ((bytes s).drop a).take (b - a) := by
  simp [bytes]
theorem bytes_append (a b : ByteArray) : bytes (a ++ b) = bytes a ++ bytes b := by simp [bytes]
def ofBytes (l : List UInt8) : ByteArray := ⟨l.toArray⟩
theorem bytes_ofBytes (l : List UInt8) : bytes (ofBytes l) = l := by simp [bytes, ofBytes]
theorem ofBytes_bytes (s : ByteArray) : ofBytes (bytes s) = s := bytes_inj (bytes_ofBytes _)

/-- The labels of a name, which dots part. -/
def splitDot : List UInt8 → List (List UInt8)
  | [] => [[]]
  | c :: r => if c = 46 then [] :: splitDot r else match splitDot r with
    | h :: t => (c :: h) :: t
    | [] => [[c]]
theorem splitDot_ne (l : List UInt8) : splitDot l ≠ [] := by
  cases l with
  | nil => simp [splitDot]
  | cons c r => unfold splitDot; split; simp; split <;> simp
theorem splitDot_noDot : ∀ (l : List UInt8), (∀ c ∈ l, c ≠ 46) → splitDot l = [l]
  | [], _ => rfl
  | c :: r, h => by
    have hc : c ≠ 46 := h c (by simp)
    have ih := splitDot_noDot r (fun x hx => h x (by simp [hx]))
    unfold splitDot
    rw [if_neg hc, ih]
theorem splitDot_at : ∀ (a b : List UInt8), (∀ c ∈ a, c ≠ 46) → splitDot (a ++ 46 :: b) = a :: splitDot b
  | [], b, _ => by simp [splitDot]
  | c :: r, b, h => by
    have hc : c ≠ 46 := h c (by simp)
    have ih := splitDot_at r b (fun x hx => h x (by simp [hx]))
    show splitDot (c :: (r ++ 46 :: b)) = _
    rw [splitDot, if_neg hc, ih]

/-- The byte of a label: a letter, a digit, a hyphen. -/
def okByte (n : Nat) : Bool := (97 ≤ low n && low n ≤ 122) || (48 ≤ low n && low n ≤ 57) || low n == 45
def labelOk (l : List UInt8) : Bool := 1 ≤ l.length && l.length ≤ 63 && l.head? != some 45 && l.getLast? != some 45 && l.all fun c => okByte c.toNat
def alpha (n : Nat) : Bool := 97 ≤ low n && low n ≤ 122
/-- The name of a host. -/
def nameOk (l : List UInt8) : Bool := (splitDot l).all labelOk && l.length ≤ 200 && (match (splitDot l).getLast? with | some (c :: _) => alpha c.toNat | _ => false)
end Go.Proofs.YtdinnpjplgkffaaGreatDoor
