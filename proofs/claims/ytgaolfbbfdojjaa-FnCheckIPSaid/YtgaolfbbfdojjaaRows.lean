/-
  No cell of these rows narrows 'for every input' (looked for: loops, veiled, ifaces, maps, wideKeys, modest, calm, conditions, laid).
  DERIVED. THE GIVEN ROWS OF THIS SEAT. 5 by the template 'for every input the law returns true; each argument reads behind the call as it read before'; 0 by the template 'total and deterministic' (their statements: YtgaolfbbfdojjaaTotals.lean).
  GIVEN WITH THE SEED: the statements are not yours to turn. If you find one false, say at which input.
  Laid BY PROGRAM, IN A SANDBOX (cutbox-rows.mjs): the forced cells as the released guide's own fill.sh prints them over the translation 9df6cf14f7951f98… (all of the seat's roots in one cut). By AI agents, Wed Nov 11 2026. No macro, syntax, notation, axiom, sorry.
-/
import Derived.Test.YtgaolfbbfdojjaaChecked
import GoSem.Claim
import GoSem.ClaimJoined
import GoSem.ClaimMapViews
import Derived.JoinedTies
import Derived.KernelRfl
namespace Go.Proofs.Ytgaolfbbfdojjaa
/- THE CELL 'sum', in the pinned program and in every row, IS THE sha256 OF THE DUMP (.gsa) THAT YtgaolfbbfdojjaaProg.lean LOADS. Nothing in Lean hashes anything: it is a label: what it is worth is what the hold of that sum in a sandbox is worth. -/
noncomputable def Try.pinned : Pinned := { name := "ytgaolfbbfdojjaa", sum := "9df6cf14f7951f98923173a5903571f14f701f7495dd560f74d7cc3b79a7ded1", checked := Try.checked }
namespace Rows
def none {H : Type} : Left H := { results := [], args := [] }

/-- 'laws.FnCompareIP': WHATEVER THE INPUT: true; the input reads as it did. -/
def fnCompareIPSpec : ChangeSpec := { name := "fnCompareIP", fn := fun _ => fun
  | [d1, d2] => { results := [.lit (.bool true)], args := [d1, d2] }
  | _ => none }
def fnCompareIPRow : OpenClaim := { program := "ytgaolfbbfdojjaa", sum := "9df6cf14f7951f98923173a5903571f14f701f7495dd560f74d7cc3b79a7ded1", func := "loop.example/pub-g03129/laws.FnCompareIP", spec := "fnCompareIP", inPlace := ["internal/bytealg.Compare"], apart := false }
def FnCompareIPSaid : Prop := fnCompareIPRow.holds Try.pinned (OpenSpec.ofChange fnCompareIPSpec)

/-- ITS FALSE NEIGHBOUR: 'it returns false'. Refute it at one input. -/
def fnCompareIPWrong : ChangeSpec := { name := "fnCompareIP", fn := fun _ => fun
  | [d1, d2] => { results := [.lit (.bool false)], args := [d1, d2] }
  | _ => none }
def FnCompareIPWrongFalsely : Prop := fnCompareIPRow.holds Try.pinned (OpenSpec.ofChange fnCompareIPWrong)

/-- 'laws.FnSubset': WHATEVER THE INPUT: true; the input reads as it did. -/
def fnSubsetSpec : ChangeSpec := { name := "fnSubset", fn := fun _ => fun
  | [d1, d2] => { results := [.lit (.bool true)], args := [d1, d2] }
  | _ => none }
def fnSubsetRow : OpenClaim := { program := "ytgaolfbbfdojjaa", sum := "9df6cf14f7951f98923173a5903571f14f701f7495dd560f74d7cc3b79a7ded1", func := "loop.example/pub-g03129/laws.FnSubset", spec := "fnSubset", apart := false }
def FnSubsetSaid : Prop := fnSubsetRow.holds Try.pinned (OpenSpec.ofChange fnSubsetSpec)

/-- ITS FALSE NEIGHBOUR: 'it returns false'. Refute it at one input. -/
def fnSubsetWrong : ChangeSpec := { name := "fnSubset", fn := fun _ => fun
  | [d1, d2] => { results := [.lit (.bool false)], args := [d1, d2] }
  | _ => none }
def FnSubsetWrongFalsely : Prop := fnSubsetRow.holds Try.pinned (OpenSpec.ofChange fnSubsetWrong)

/-- 'laws.FnQueryIP': WHATEVER THE INPUT: true; the input reads as it did. -/
def fnQueryIPSpec : ChangeSpec := { name := "fnQueryIP", fn := fun _ => fun
  | [d1, d2] => { results := [.lit (.bool true)], args := [d1, d2] }
  | _ => none }
def fnQueryIPRow : OpenClaim := { program := "ytgaolfbbfdojjaa", sum := "9df6cf14f7951f98923173a5903571f14f701f7495dd560f74d7cc3b79a7ded1", func := "loop.example/pub-g03129/laws.FnQueryIP", spec := "fnQueryIP", inPlace := ["internal/bytealg.Compare"], unfollowed := true, recurses := true, apart := false }
def FnQueryIPSaid : Prop := fnQueryIPRow.holds Try.pinned (OpenSpec.ofChange fnQueryIPSpec)

/-- ITS FALSE NEIGHBOUR: 'it returns false'. Refute it at one input. -/
def fnQueryIPWrong : ChangeSpec := { name := "fnQueryIP", fn := fun _ => fun
  | [d1, d2] => { results := [.lit (.bool false)], args := [d1, d2] }
  | _ => none }
def FnQueryIPWrongFalsely : Prop := fnQueryIPRow.holds Try.pinned (OpenSpec.ofChange fnQueryIPWrong)

/-- 'laws.FnSubsetAddress': WHATEVER THE INPUT: true; the input reads as it did. -/
def fnSubsetAddressSpec : ChangeSpec := { name := "fnSubsetAddress", fn := fun _ => fun
  | [d1, d2, d3] => { results := [.lit (.bool true)], args := [d1, d2, d3] }
  | _ => none }
def fnSubsetAddressRow : OpenClaim := { program := "ytgaolfbbfdojjaa", sum := "9df6cf14f7951f98923173a5903571f14f701f7495dd560f74d7cc3b79a7ded1", func := "loop.example/pub-g03129/laws.FnSubsetAddress", spec := "fnSubsetAddress", inPlace := ["internal/bytealg.Compare"], unfollowed := true, recurses := true, apart := false }
def FnSubsetAddressSaid : Prop := fnSubsetAddressRow.holds Try.pinned (OpenSpec.ofChange fnSubsetAddressSpec)

/-- ITS FALSE NEIGHBOUR: 'it returns false'. Refute it at one input. -/
def fnSubsetAddressWrong : ChangeSpec := { name := "fnSubsetAddress", fn := fun _ => fun
  | [d1, d2, d3] => { results := [.lit (.bool false)], args := [d1, d2, d3] }
  | _ => none }
def FnSubsetAddressWrongFalsely : Prop := fnSubsetAddressRow.holds Try.pinned (OpenSpec.ofChange fnSubsetAddressWrong)

/-- 'laws.FnCheckIP': WHATEVER THE INPUT: true; the input reads as it did. -/
def fnCheckIPSpec : ChangeSpec := { name := "fnCheckIP", fn := fun _ => fun
  | [d1, d2, d3] => { results := [.lit (.bool true)], args := [d1, d2, d3] }
  | _ => none }
def fnCheckIPRow : OpenClaim := { program := "ytgaolfbbfdojjaa", sum := "9df6cf14f7951f98923173a5903571f14f701f7495dd560f74d7cc3b79a7ded1", func := "loop.example/pub-g03129/laws.FnCheckIP", spec := "fnCheckIP", inPlace := ["internal/bytealg.Compare"], unfollowed := true, recurses := true, apart := false }
def FnCheckIPSaid : Prop := fnCheckIPRow.holds Try.pinned (OpenSpec.ofChange fnCheckIPSpec)

/-- ITS FALSE NEIGHBOUR: 'it returns false'. Refute it at one input. -/
def fnCheckIPWrong : ChangeSpec := { name := "fnCheckIP", fn := fun _ => fun
  | [d1, d2, d3] => { results := [.lit (.bool false)], args := [d1, d2, d3] }
  | _ => none }
def FnCheckIPWrongFalsely : Prop := fnCheckIPRow.holds Try.pinned (OpenSpec.ofChange fnCheckIPWrong)

/- THE SECOND FORM. 'bulk': how many values and letters a reading holds, each counted each time it is reached (what is shared counts as often as it is met; a slice's spare places count too). A statement '..UptoSaid' is the law's where the arguments, and the package variables that the reading takes, are together of bulk at most 1048576: NARROWER than '..Said'. Prove '..Said' where nothing that the law and all that it calls make is longer than what came in: it says more and counts as full. Else prove '..UptoSaid'. A law counts once. -/
mutual
def uptoBulk {H : Type} : DataW H → Nat
  | .lit (.string bytes) => bytes.length + 1
  | .lit _ => 1
  | .nil => 1
  | .ptr d => uptoBulk d + 1
  | .slice elems spare => uptoBulkAll elems + uptoBulkAll spare + 1
  | .agg parts => uptoBulkAll parts + 1
  | .iface _ d => uptoBulk d + 1
  | .map entries => uptoBulkEntries entries + 1
  | .held _ => 1
def uptoBulkAll {H : Type} : List (DataW H) → Nat
  | [] => 0
  | d :: r => uptoBulk d + uptoBulkAll r
def uptoBulkEntries {H : Type} : List (Lit × DataW H) → Nat
  | [] => 0
  | x :: r => uptoBulkEntry x + uptoBulkEntries r
def uptoBulkEntry {H : Type} : Lit × DataW H → Nat
  | (.string bytes, d) => bytes.length + uptoBulk d + 1
  | (_, d) => uptoBulk d + 1
 end
def uptoSmall : (H : Type) → List (DataW H) → Bool := fun _ ds => decide (uptoBulkAll ds ≤ 1048576)
def OpenSpec.upto (s : _root_.Go.ChangeSpec) : _root_.Go.OpenSpec := { _root_.Go.OpenSpec.ofChange s with cond := some uptoSmall }

/-- 'laws.FnCompareIP', WHERE WHAT IT READS IS OF BULK AT MOST 1048576: true; the input reads as it did. -/
def fnCompareIPUptoRow : OpenClaim := { program := "ytgaolfbbfdojjaa", sum := "9df6cf14f7951f98923173a5903571f14f701f7495dd560f74d7cc3b79a7ded1", func := "loop.example/pub-g03129/laws.FnCompareIP", spec := "fnCompareIP", inPlace := ["internal/bytealg.Compare"], apart := false, narrowed := true }
def FnCompareIPUptoSaid : Prop := fnCompareIPUptoRow.holds Try.pinned (OpenSpec.upto fnCompareIPSpec)

/-- 'laws.FnSubset', WHERE WHAT IT READS IS OF BULK AT MOST 1048576: true; the input reads as it did. -/
def fnSubsetUptoRow : OpenClaim := { program := "ytgaolfbbfdojjaa", sum := "9df6cf14f7951f98923173a5903571f14f701f7495dd560f74d7cc3b79a7ded1", func := "loop.example/pub-g03129/laws.FnSubset", spec := "fnSubset", apart := false, narrowed := true }
def FnSubsetUptoSaid : Prop := fnSubsetUptoRow.holds Try.pinned (OpenSpec.upto fnSubsetSpec)

/-- 'laws.FnQueryIP', WHERE WHAT IT READS IS OF BULK AT MOST 1048576: true; the input reads as it did. -/
def fnQueryIPUptoRow : OpenClaim := { program := "ytgaolfbbfdojjaa", sum := "9df6cf14f7951f98923173a5903571f14f701f7495dd560f74d7cc3b79a7ded1", func := "loop.example/pub-g03129/laws.FnQueryIP", spec := "fnQueryIP", inPlace := ["internal/bytealg.Compare"], unfollowed := true, recurses := true, apart := false, narrowed := true }
def FnQueryIPUptoSaid : Prop := fnQueryIPUptoRow.holds Try.pinned (OpenSpec.upto fnQueryIPSpec)

/-- 'laws.FnSubsetAddress', WHERE WHAT IT READS IS OF BULK AT MOST 1048576: true; the input reads as it did. -/
def fnSubsetAddressUptoRow : OpenClaim := { program := "ytgaolfbbfdojjaa", sum := "9df6cf14f7951f98923173a5903571f14f701f7495dd560f74d7cc3b79a7ded1", func := "loop.example/pub-g03129/laws.FnSubsetAddress", spec := "fnSubsetAddress", inPlace := ["internal/bytealg.Compare"], unfollowed := true, recurses := true, apart := false, narrowed := true }
def FnSubsetAddressUptoSaid : Prop := fnSubsetAddressUptoRow.holds Try.pinned (OpenSpec.upto fnSubsetAddressSpec)

/-- 'laws.FnCheckIP', WHERE WHAT IT READS IS OF BULK AT MOST 1048576: true; the input reads as it did. -/
def fnCheckIPUptoRow : OpenClaim := { program := "ytgaolfbbfdojjaa", sum := "9df6cf14f7951f98923173a5903571f14f701f7495dd560f74d7cc3b79a7ded1", func := "loop.example/pub-g03129/laws.FnCheckIP", spec := "fnCheckIP", inPlace := ["internal/bytealg.Compare"], unfollowed := true, recurses := true, apart := false, narrowed := true }
def FnCheckIPUptoSaid : Prop := fnCheckIPUptoRow.holds Try.pinned (OpenSpec.upto fnCheckIPSpec)

end Rows
end Go.Proofs.Ytgaolfbbfdojjaa
