/-
  Walks: laws.dns, spec.Of: what constraints say of a name.
-/
import Derived.Test.YtdinnpjplgkffaaGreatDoorD2
namespace Go.Proofs.YtdinnpjplgkffaaGreatDoor
open Go.ChangeShapes Go.WideShapes Go.ChangeAt Go.RowKit

def saysD (c n : ByteArray) : Int := dnsV (bytes c) (bytes n)
end Go.Proofs.YtdinnpjplgkffaaGreatDoor
