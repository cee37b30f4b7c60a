/-
  No cell of these rows narrows 'for every input' (looked for: loops, veiled, ifaces, maps, wideKeys, modest, calm, conditions, laid).
  DERIVED. THE GIVEN ROWS OF THIS SEAT. 17 by the template 'for every input the law returns true; each argument reads behind the call as it read before'; 0 by the template 'total and deterministic' (their statements: YtdnbbodolpgphaaTotals.lean).
  GIVEN WITH THE SEED: the statements are not yours to turn. If you find one false, say at which input.
  Laid BY PROGRAM, IN A SANDBOX (cutbox-rows.mjs): the forced cells as the released guide's own fill.sh prints them over the translation 4a4912307c80b152… (all of the seat's roots in one cut). By AI agents, Wed Nov 11 2026. No macro, syntax, notation, axiom, sorry.
-/
import Derived.Test.YtdnbbodolpgphaaChecked
import GoSem.Claim
import GoSem.ClaimJoined
import GoSem.ClaimMapViews
import Derived.JoinedTies
import Derived.KernelRfl
namespace Go.Proofs.Ytdnbbodolpgphaa
/- THE CELL 'sum', in the pinned program and in every row, IS THE sha256 OF THE DUMP (.gsa) THAT YtdnbbodolpgphaaProg.lean LOADS. Nothing in Lean hashes anything: it is a label: what it is worth is what the hold of that sum in a sandbox is worth. -/
noncomputable def Try.pinned : Pinned := { name := "ytdnbbodolpgphaa", sum := "4a4912307c80b152c0cafe13e6a5e7934e2d11d96b61be6816cac9506b95109e", checked := Try.checked }
namespace Rows
def none {H : Type} : Left H := { results := [], args := [] }

/-- 'laws.FnTrim': WHATEVER THE INPUT: true; the input reads as it did. -/
def fnTrimSpec : ChangeSpec := { name := "fnTrim", fn := fun _ => fun
  | [d1, d2] => { results := [.lit (.bool true)], args := [d1, d2] }
  | _ => none }
def fnTrimRow : OpenClaim := { program := "ytdnbbodolpgphaa", sum := "4a4912307c80b152c0cafe13e6a5e7934e2d11d96b61be6816cac9506b95109e", func := "loop.example/pub-g03129/laws.FnTrim", spec := "fnTrim", inPlace := ["internal/bytealg.IndexByteString"], apart := false }
def FnTrimSaid : Prop := fnTrimRow.holds Try.pinned (OpenSpec.ofChange fnTrimSpec)

/-- ITS FALSE NEIGHBOUR: 'it returns false'. Refute it at one input. -/
def fnTrimWrong : ChangeSpec := { name := "fnTrim", fn := fun _ => fun
  | [d1, d2] => { results := [.lit (.bool false)], args := [d1, d2] }
  | _ => none }
def FnTrimWrongFalsely : Prop := fnTrimRow.holds Try.pinned (OpenSpec.ofChange fnTrimWrong)

/-- 'laws.FnLower': WHATEVER THE INPUT: true; the input reads as it did. -/
def fnLowerSpec : ChangeSpec := { name := "fnLower", fn := fun _ => fun
  | [d] => { results := [.lit (.bool true)], args := [d] }
  | _ => none }
def fnLowerRow : OpenClaim := { program := "ytdnbbodolpgphaa", sum := "4a4912307c80b152c0cafe13e6a5e7934e2d11d96b61be6816cac9506b95109e", func := "loop.example/pub-g03129/laws.FnLower", spec := "fnLower", apart := false }
def FnLowerSaid : Prop := fnLowerRow.holds Try.pinned (OpenSpec.ofChange fnLowerSpec)

/-- ITS FALSE NEIGHBOUR: 'it returns false'. Refute it at one input. -/
def fnLowerWrong : ChangeSpec := { name := "fnLower", fn := fun _ => fun
  | [d] => { results := [.lit (.bool false)], args := [d] }
  | _ => none }
def FnLowerWrongFalsely : Prop := fnLowerRow.holds Try.pinned (OpenSpec.ofChange fnLowerWrong)

/-- 'laws.FnSuffix': WHATEVER THE INPUT: true; the input reads as it did. -/
def fnSuffixSpec : ChangeSpec := { name := "fnSuffix", fn := fun _ => fun
  | [d1, d2] => { results := [.lit (.bool true)], args := [d1, d2] }
  | _ => none }
def fnSuffixRow : OpenClaim := { program := "ytdnbbodolpgphaa", sum := "4a4912307c80b152c0cafe13e6a5e7934e2d11d96b61be6816cac9506b95109e", func := "loop.example/pub-g03129/laws.FnSuffix", spec := "fnSuffix", apart := false }
def FnSuffixSaid : Prop := fnSuffixRow.holds Try.pinned (OpenSpec.ofChange fnSuffixSpec)

/-- ITS FALSE NEIGHBOUR: 'it returns false'. Refute it at one input. -/
def fnSuffixWrong : ChangeSpec := { name := "fnSuffix", fn := fun _ => fun
  | [d1, d2] => { results := [.lit (.bool false)], args := [d1, d2] }
  | _ => none }
def FnSuffixWrongFalsely : Prop := fnSuffixRow.holds Try.pinned (OpenSpec.ofChange fnSuffixWrong)

/-- 'laws.FnSuffixDeeper': WHATEVER THE INPUT: true; the input reads as it did. -/
def fnSuffixDeeperSpec : ChangeSpec := { name := "fnSuffixDeeper", fn := fun _ => fun
  | [d1, d2, d3] => { results := [.lit (.bool true)], args := [d1, d2, d3] }
  | _ => none }
def fnSuffixDeeperRow : OpenClaim := { program := "ytdnbbodolpgphaa", sum := "4a4912307c80b152c0cafe13e6a5e7934e2d11d96b61be6816cac9506b95109e", func := "loop.example/pub-g03129/laws.FnSuffixDeeper", spec := "fnSuffixDeeper", apart := false }
def FnSuffixDeeperSaid : Prop := fnSuffixDeeperRow.holds Try.pinned (OpenSpec.ofChange fnSuffixDeeperSpec)

/-- ITS FALSE NEIGHBOUR: 'it returns false'. Refute it at one input. -/
def fnSuffixDeeperWrong : ChangeSpec := { name := "fnSuffixDeeper", fn := fun _ => fun
  | [d1, d2, d3] => { results := [.lit (.bool false)], args := [d1, d2, d3] }
  | _ => none }
def FnSuffixDeeperWrongFalsely : Prop := fnSuffixDeeperRow.holds Try.pinned (OpenSpec.ofChange fnSuffixDeeperWrong)

/-- 'laws.FnExactly': WHATEVER THE INPUT: true; the input reads as it did. -/
def fnExactlySpec : ChangeSpec := { name := "fnExactly", fn := fun _ => fun
  | [d1, d2] => { results := [.lit (.bool true)], args := [d1, d2] }
  | _ => none }
def fnExactlyRow : OpenClaim := { program := "ytdnbbodolpgphaa", sum := "4a4912307c80b152c0cafe13e6a5e7934e2d11d96b61be6816cac9506b95109e", func := "loop.example/pub-g03129/laws.FnExactly", spec := "fnExactly", apart := false }
def FnExactlySaid : Prop := fnExactlyRow.holds Try.pinned (OpenSpec.ofChange fnExactlySpec)

/-- ITS FALSE NEIGHBOUR: 'it returns false'. Refute it at one input. -/
def fnExactlyWrong : ChangeSpec := { name := "fnExactly", fn := fun _ => fun
  | [d1, d2] => { results := [.lit (.bool false)], args := [d1, d2] }
  | _ => none }
def FnExactlyWrongFalsely : Prop := fnExactlyRow.holds Try.pinned (OpenSpec.ofChange fnExactlyWrong)

/-- 'laws.FnCompare': WHATEVER THE INPUT: true; the input reads as it did. -/
def fnCompareSpec : ChangeSpec := { name := "fnCompare", fn := fun _ => fun
  | [d1, d2, d3] => { results := [.lit (.bool true)], args := [d1, d2, d3] }
  | _ => none }
def fnCompareRow : OpenClaim := { program := "ytdnbbodolpgphaa", sum := "4a4912307c80b152c0cafe13e6a5e7934e2d11d96b61be6816cac9506b95109e", func := "loop.example/pub-g03129/laws.FnCompare", spec := "fnCompare", apart := false }
def FnCompareSaid : Prop := fnCompareRow.holds Try.pinned (OpenSpec.ofChange fnCompareSpec)

/-- ITS FALSE NEIGHBOUR: 'it returns false'. Refute it at one input. -/
def fnCompareWrong : ChangeSpec := { name := "fnCompare", fn := fun _ => fun
  | [d1, d2, d3] => { results := [.lit (.bool false)], args := [d1, d2, d3] }
  | _ => none }
def FnCompareWrongFalsely : Prop := fnCompareRow.holds Try.pinned (OpenSpec.ofChange fnCompareWrong)

/-- 'laws.FnValid': WHATEVER THE INPUT: true; the input reads as it did. -/
def fnValidSpec : ChangeSpec := { name := "fnValid", fn := fun _ => fun
  | [d1, d2] => { results := [.lit (.bool true)], args := [d1, d2] }
  | _ => none }
def fnValidRow : OpenClaim := { program := "ytdnbbodolpgphaa", sum := "4a4912307c80b152c0cafe13e6a5e7934e2d11d96b61be6816cac9506b95109e", func := "loop.example/pub-g03129/laws.FnValid", spec := "fnValid", apart := false }
def FnValidSaid : Prop := fnValidRow.holds Try.pinned (OpenSpec.ofChange fnValidSpec)

/-- ITS FALSE NEIGHBOUR: 'it returns false'. Refute it at one input. -/
def fnValidWrong : ChangeSpec := { name := "fnValid", fn := fun _ => fun
  | [d1, d2] => { results := [.lit (.bool false)], args := [d1, d2] }
  | _ => none }
def FnValidWrongFalsely : Prop := fnValidRow.holds Try.pinned (OpenSpec.ofChange fnValidWrong)

/-- 'laws.FnLabelsNot': WHATEVER THE INPUT: true; the input reads as it did. -/
def fnLabelsNotSpec : ChangeSpec := { name := "fnLabelsNot", fn := fun _ => fun
  | [d1, d2, d3] => { results := [.lit (.bool true)], args := [d1, d2, d3] }
  | _ => none }
def fnLabelsNotRow : OpenClaim := { program := "ytdnbbodolpgphaa", sum := "4a4912307c80b152c0cafe13e6a5e7934e2d11d96b61be6816cac9506b95109e", func := "loop.example/pub-g03129/laws.FnLabelsNot", spec := "fnLabelsNot", apart := false }
def FnLabelsNotSaid : Prop := fnLabelsNotRow.holds Try.pinned (OpenSpec.ofChange fnLabelsNotSpec)

/-- ITS FALSE NEIGHBOUR: 'it returns false'. Refute it at one input. -/
def fnLabelsNotWrong : ChangeSpec := { name := "fnLabelsNot", fn := fun _ => fun
  | [d1, d2, d3] => { results := [.lit (.bool false)], args := [d1, d2, d3] }
  | _ => none }
def FnLabelsNotWrongFalsely : Prop := fnLabelsNotRow.holds Try.pinned (OpenSpec.ofChange fnLabelsNotWrong)

/-- 'laws.FnMatch': WHATEVER THE INPUT: true; the input reads as it did. -/
def fnMatchSpec : ChangeSpec := { name := "fnMatch", fn := fun _ => fun
  | [d1, d2, d3] => { results := [.lit (.bool true)], args := [d1, d2, d3] }
  | _ => none }
def fnMatchRow : OpenClaim := { program := "ytdnbbodolpgphaa", sum := "4a4912307c80b152c0cafe13e6a5e7934e2d11d96b61be6816cac9506b95109e", func := "loop.example/pub-g03129/laws.FnMatch", spec := "fnMatch", apart := false }
def FnMatchSaid : Prop := fnMatchRow.holds Try.pinned (OpenSpec.ofChange fnMatchSpec)

/-- ITS FALSE NEIGHBOUR: 'it returns false'. Refute it at one input. -/
def fnMatchWrong : ChangeSpec := { name := "fnMatch", fn := fun _ => fun
  | [d1, d2, d3] => { results := [.lit (.bool false)], args := [d1, d2, d3] }
  | _ => none }
def FnMatchWrongFalsely : Prop := fnMatchRow.holds Try.pinned (OpenSpec.ofChange fnMatchWrong)

/-- 'laws.FnMatchStar': WHATEVER THE INPUT: true; the input reads as it did. -/
def fnMatchStarSpec : ChangeSpec := { name := "fnMatchStar", fn := fun _ => fun
  | [d1, d2, d3] => { results := [.lit (.bool true)], args := [d1, d2, d3] }
  | _ => none }
def fnMatchStarRow : OpenClaim := { program := "ytdnbbodolpgphaa", sum := "4a4912307c80b152c0cafe13e6a5e7934e2d11d96b61be6816cac9506b95109e", func := "loop.example/pub-g03129/laws.FnMatchStar", spec := "fnMatchStar", apart := false }
def FnMatchStarSaid : Prop := fnMatchStarRow.holds Try.pinned (OpenSpec.ofChange fnMatchStarSpec)

/-- ITS FALSE NEIGHBOUR: 'it returns false'. Refute it at one input. -/
def fnMatchStarWrong : ChangeSpec := { name := "fnMatchStar", fn := fun _ => fun
  | [d1, d2, d3] => { results := [.lit (.bool false)], args := [d1, d2, d3] }
  | _ => none }
def FnMatchStarWrongFalsely : Prop := fnMatchStarRow.holds Try.pinned (OpenSpec.ofChange fnMatchStarWrong)

/-- 'laws.FnSplit': WHATEVER THE INPUT: true; the input reads as it did. -/
def fnSplitSpec : ChangeSpec := { name := "fnSplit", fn := fun _ => fun
  | [d] => { results := [.lit (.bool true)], args := [d] }
  | _ => none }
def fnSplitRow : OpenClaim := { program := "ytdnbbodolpgphaa", sum := "4a4912307c80b152c0cafe13e6a5e7934e2d11d96b61be6816cac9506b95109e", func := "loop.example/pub-g03129/laws.FnSplit", spec := "fnSplit", apart := false }
def FnSplitSaid : Prop := fnSplitRow.holds Try.pinned (OpenSpec.ofChange fnSplitSpec)

/-- ITS FALSE NEIGHBOUR: 'it returns false'. Refute it at one input. -/
def fnSplitWrong : ChangeSpec := { name := "fnSplit", fn := fun _ => fun
  | [d] => { results := [.lit (.bool false)], args := [d] }
  | _ => none }
def FnSplitWrongFalsely : Prop := fnSplitRow.holds Try.pinned (OpenSpec.ofChange fnSplitWrong)

/-- 'laws.FnLabels': WHATEVER THE INPUT: true; the input reads as it did. -/
def fnLabelsSpec : ChangeSpec := { name := "fnLabels", fn := fun _ => fun
  | [d] => { results := [.lit (.bool true)], args := [d] }
  | _ => none }
def fnLabelsRow : OpenClaim := { program := "ytdnbbodolpgphaa", sum := "4a4912307c80b152c0cafe13e6a5e7934e2d11d96b61be6816cac9506b95109e", func := "loop.example/pub-g03129/laws.FnLabels", spec := "fnLabels", apart := false }
def FnLabelsSaid : Prop := fnLabelsRow.holds Try.pinned (OpenSpec.ofChange fnLabelsSpec)

/-- ITS FALSE NEIGHBOUR: 'it returns false'. Refute it at one input. -/
def fnLabelsWrong : ChangeSpec := { name := "fnLabels", fn := fun _ => fun
  | [d] => { results := [.lit (.bool false)], args := [d] }
  | _ => none }
def FnLabelsWrongFalsely : Prop := fnLabelsRow.holds Try.pinned (OpenSpec.ofChange fnLabelsWrong)

/-- 'laws.FnHostname': WHATEVER THE INPUT: true; the input reads as it did. -/
def fnHostnameSpec : ChangeSpec := { name := "fnHostname", fn := fun _ => fun
  | [d1, d2] => { results := [.lit (.bool true)], args := [d1, d2] }
  | _ => none }
def fnHostnameRow : OpenClaim := { program := "ytdnbbodolpgphaa", sum := "4a4912307c80b152c0cafe13e6a5e7934e2d11d96b61be6816cac9506b95109e", func := "loop.example/pub-g03129/laws.FnHostname", spec := "fnHostname", apart := false }
def FnHostnameSaid : Prop := fnHostnameRow.holds Try.pinned (OpenSpec.ofChange fnHostnameSpec)

/-- ITS FALSE NEIGHBOUR: 'it returns false'. Refute it at one input. -/
def fnHostnameWrong : ChangeSpec := { name := "fnHostname", fn := fun _ => fun
  | [d1, d2] => { results := [.lit (.bool false)], args := [d1, d2] }
  | _ => none }
def FnHostnameWrongFalsely : Prop := fnHostnameRow.holds Try.pinned (OpenSpec.ofChange fnHostnameWrong)

/-- 'laws.FnMailbox': WHATEVER THE INPUT: true; the input reads as it did. -/
def fnMailboxSpec : ChangeSpec := { name := "fnMailbox", fn := fun _ => fun
  | [d1, d2] => { results := [.lit (.bool true)], args := [d1, d2] }
  | _ => none }
def fnMailboxRow : OpenClaim := { program := "ytdnbbodolpgphaa", sum := "4a4912307c80b152c0cafe13e6a5e7934e2d11d96b61be6816cac9506b95109e", func := "loop.example/pub-g03129/laws.FnMailbox", spec := "fnMailbox", apart := false }
def FnMailboxSaid : Prop := fnMailboxRow.holds Try.pinned (OpenSpec.ofChange fnMailboxSpec)

/-- ITS FALSE NEIGHBOUR: 'it returns false'. Refute it at one input. -/
def fnMailboxWrong : ChangeSpec := { name := "fnMailbox", fn := fun _ => fun
  | [d1, d2] => { results := [.lit (.bool false)], args := [d1, d2] }
  | _ => none }
def FnMailboxWrongFalsely : Prop := fnMailboxRow.holds Try.pinned (OpenSpec.ofChange fnMailboxWrong)

/-- 'laws.FnMailboxAgain': WHATEVER THE INPUT: true; the input reads as it did. -/
def fnMailboxAgainSpec : ChangeSpec := { name := "fnMailboxAgain", fn := fun _ => fun
  | [d] => { results := [.lit (.bool true)], args := [d] }
  | _ => none }
def fnMailboxAgainRow : OpenClaim := { program := "ytdnbbodolpgphaa", sum := "4a4912307c80b152c0cafe13e6a5e7934e2d11d96b61be6816cac9506b95109e", func := "loop.example/pub-g03129/laws.FnMailboxAgain", spec := "fnMailboxAgain", apart := false }
def FnMailboxAgainSaid : Prop := fnMailboxAgainRow.holds Try.pinned (OpenSpec.ofChange fnMailboxAgainSpec)

/-- ITS FALSE NEIGHBOUR: 'it returns false'. Refute it at one input. -/
def fnMailboxAgainWrong : ChangeSpec := { name := "fnMailboxAgain", fn := fun _ => fun
  | [d] => { results := [.lit (.bool false)], args := [d] }
  | _ => none }
def FnMailboxAgainWrongFalsely : Prop := fnMailboxAgainRow.holds Try.pinned (OpenSpec.ofChange fnMailboxAgainWrong)

/-- 'laws.FnMailboxNot': WHATEVER THE INPUT: true; the input reads as it did. -/
def fnMailboxNotSpec : ChangeSpec := { name := "fnMailboxNot", fn := fun _ => fun
  | [d1, d2, d3] => { results := [.lit (.bool true)], args := [d1, d2, d3] }
  | _ => none }
def fnMailboxNotRow : OpenClaim := { program := "ytdnbbodolpgphaa", sum := "4a4912307c80b152c0cafe13e6a5e7934e2d11d96b61be6816cac9506b95109e", func := "loop.example/pub-g03129/laws.FnMailboxNot", spec := "fnMailboxNot", apart := false }
def FnMailboxNotSaid : Prop := fnMailboxNotRow.holds Try.pinned (OpenSpec.ofChange fnMailboxNotSpec)

/-- ITS FALSE NEIGHBOUR: 'it returns false'. Refute it at one input. -/
def fnMailboxNotWrong : ChangeSpec := { name := "fnMailboxNot", fn := fun _ => fun
  | [d1, d2, d3] => { results := [.lit (.bool false)], args := [d1, d2, d3] }
  | _ => none }
def FnMailboxNotWrongFalsely : Prop := fnMailboxNotRow.holds Try.pinned (OpenSpec.ofChange fnMailboxNotWrong)

/-- 'laws.FnMailboxQuoted': WHATEVER THE INPUT: true; the input reads as it did. -/
def fnMailboxQuotedSpec : ChangeSpec := { name := "fnMailboxQuoted", fn := fun _ => fun
  | [d1, d2, d3] => { results := [.lit (.bool true)], args := [d1, d2, d3] }
  | _ => none }
def fnMailboxQuotedRow : OpenClaim := { program := "ytdnbbodolpgphaa", sum := "4a4912307c80b152c0cafe13e6a5e7934e2d11d96b61be6816cac9506b95109e", func := "loop.example/pub-g03129/laws.FnMailboxQuoted", spec := "fnMailboxQuoted", apart := false }
def FnMailboxQuotedSaid : Prop := fnMailboxQuotedRow.holds Try.pinned (OpenSpec.ofChange fnMailboxQuotedSpec)

/-- ITS FALSE NEIGHBOUR: 'it returns false'. Refute it at one input. -/
def fnMailboxQuotedWrong : ChangeSpec := { name := "fnMailboxQuoted", fn := fun _ => fun
  | [d1, d2, d3] => { results := [.lit (.bool false)], args := [d1, d2, d3] }
  | _ => none }
def FnMailboxQuotedWrongFalsely : Prop := fnMailboxQuotedRow.holds Try.pinned (OpenSpec.ofChange fnMailboxQuotedWrong)

/- THE SECOND FORM. 'bulk': how many values and letters a reading holds, each counted each time it is reached (what is shared counts as often as it is met; a slice's spare places count too). A statement '..UptoSaid' is the law's where the arguments, and the package variables that the reading takes, are together of bulk at most 1048576: NARROWER than '..Said'. Prove '..Said' where nothing that the law and all that it calls make is longer than what came in: it says more and counts as full. Else prove '..UptoSaid'. A law counts once. -/
mutual
def uptoBulk {H : Type} : DataW H → Nat
  | .lit (.string bytes) => bytes.length + 1
  | .lit _ => 1
  | .nil => 1
  | .ptr d => uptoBulk d + 1
  | .slice elems spare => uptoBulkAll elems + uptoBulkAll spare + 1
  | .agg parts => uptoBulkAll parts + 1
  | .iface _ d => uptoBulk d + 1
  | .map entries => uptoBulkEntries entries + 1
  | .held _ => 1
def uptoBulkAll {H : Type} : List (DataW H) → Nat
  | [] => 0
  | d :: r => uptoBulk d + uptoBulkAll r
def uptoBulkEntries {H : Type} : List (Lit × DataW H) → Nat
  | [] => 0
  | x :: r => uptoBulkEntry x + uptoBulkEntries r
def uptoBulkEntry {H : Type} : Lit × DataW H → Nat
  | (.string bytes, d) => bytes.length + uptoBulk d + 1
  | (_, d) => uptoBulk d + 1
 end
def uptoSmall : (H : Type) → List (DataW H) → Bool := fun _ ds => decide (uptoBulkAll ds ≤ 1048576)
def OpenSpec.upto (s : _root_.Go.ChangeSpec) : _root_.Go.OpenSpec := { _root_.Go.OpenSpec.ofChange s with cond := some uptoSmall }

/-- 'laws.FnTrim', WHERE WHAT IT READS IS OF BULK AT MOST 1048576: true; the input reads as it did. -/
def fnTrimUptoRow : OpenClaim := { program := "ytdnbbodolpgphaa", sum := "4a4912307c80b152c0cafe13e6a5e7934e2d11d96b61be6816cac9506b95109e", func := "loop.example/pub-g03129/laws.FnTrim", spec := "fnTrim", inPlace := ["internal/bytealg.IndexByteString"], apart := false, narrowed := true }
def FnTrimUptoSaid : Prop := fnTrimUptoRow.holds Try.pinned (OpenSpec.upto fnTrimSpec)

/-- 'laws.FnLower', WHERE WHAT IT READS IS OF BULK AT MOST 1048576: true; the input reads as it did. -/
def fnLowerUptoRow : OpenClaim := { program := "ytdnbbodolpgphaa", sum := "4a4912307c80b152c0cafe13e6a5e7934e2d11d96b61be6816cac9506b95109e", func := "loop.example/pub-g03129/laws.FnLower", spec := "fnLower", apart := false, narrowed := true }
def FnLowerUptoSaid : Prop := fnLowerUptoRow.holds Try.pinned (OpenSpec.upto fnLowerSpec)

/-- 'laws.FnSuffix', WHERE WHAT IT READS IS OF BULK AT MOST 1048576: true; the input reads as it did. -/
def fnSuffixUptoRow : OpenClaim := { program := "ytdnbbodolpgphaa", sum := "4a4912307c80b152c0cafe13e6a5e7934e2d11d96b61be6816cac9506b95109e", func := "loop.example/pub-g03129/laws.FnSuffix", spec := "fnSuffix", apart := false, narrowed := true }
def FnSuffixUptoSaid : Prop := fnSuffixUptoRow.holds Try.pinned (OpenSpec.upto fnSuffixSpec)

/-- 'laws.FnSuffixDeeper', WHERE WHAT IT READS IS OF BULK AT MOST 1048576: true; the input reads as it did. -/
def fnSuffixDeeperUptoRow : OpenClaim := { program := "ytdnbbodolpgphaa", sum := "4a4912307c80b152c0cafe13e6a5e7934e2d11d96b61be6816cac9506b95109e", func := "loop.example/pub-g03129/laws.FnSuffixDeeper", spec := "fnSuffixDeeper", apart := false, narrowed := true }
def FnSuffixDeeperUptoSaid : Prop := fnSuffixDeeperUptoRow.holds Try.pinned (OpenSpec.upto fnSuffixDeeperSpec)

/-- 'laws.FnExactly', WHERE WHAT IT READS IS OF BULK AT MOST 1048576: true; the input reads as it did. -/
def fnExactlyUptoRow : OpenClaim := { program := "ytdnbbodolpgphaa", sum := "4a4912307c80b152c0cafe13e6a5e7934e2d11d96b61be6816cac9506b95109e", func := "loop.example/pub-g03129/laws.FnExactly", spec := "fnExactly", apart := false, narrowed := true }
def FnExactlyUptoSaid : Prop := fnExactlyUptoRow.holds Try.pinned (OpenSpec.upto fnExactlySpec)

/-- 'laws.FnCompare', WHERE WHAT IT READS IS OF BULK AT MOST 1048576: true; the input reads as it did. -/
def fnCompareUptoRow : OpenClaim := { program := "ytdnbbodolpgphaa", sum := "4a4912307c80b152c0cafe13e6a5e7934e2d11d96b61be6816cac9506b95109e", func := "loop.example/pub-g03129/laws.FnCompare", spec := "fnCompare", apart := false, narrowed := true }
def FnCompareUptoSaid : Prop := fnCompareUptoRow.holds Try.pinned (OpenSpec.upto fnCompareSpec)

/-- 'laws.FnValid', WHERE WHAT IT READS IS OF BULK AT MOST 1048576: true; the input reads as it did. -/
def fnValidUptoRow : OpenClaim := { program := "ytdnbbodolpgphaa", sum := "4a4912307c80b152c0cafe13e6a5e7934e2d11d96b61be6816cac9506b95109e", func := "loop.example/pub-g03129/laws.FnValid", spec := "fnValid", apart := false, narrowed := true }
def FnValidUptoSaid : Prop := fnValidUptoRow.holds Try.pinned (OpenSpec.upto fnValidSpec)

/-- 'laws.FnLabelsNot', WHERE WHAT IT READS IS OF BULK AT MOST 1048576: true; the input reads as it did. -/
def fnLabelsNotUptoRow : OpenClaim := { program := "ytdnbbodolpgphaa", sum := "4a4912307c80b152c0cafe13e6a5e7934e2d11d96b61be6816cac9506b95109e", func := "loop.example/pub-g03129/laws.FnLabelsNot", spec := "fnLabelsNot", apart := false, narrowed := true }
def FnLabelsNotUptoSaid : Prop := fnLabelsNotUptoRow.holds Try.pinned (OpenSpec.upto fnLabelsNotSpec)

/-- 'laws.FnMatch', WHERE WHAT IT READS IS OF BULK AT MOST 1048576: true; the input reads as it did. -/
def fnMatchUptoRow : OpenClaim := { program := "ytdnbbodolpgphaa", sum := "4a4912307c80b152c0cafe13e6a5e7934e2d11d96b61be6816cac9506b95109e", func := "loop.example/pub-g03129/laws.FnMatch", spec := "fnMatch", apart := false, narrowed := true }
def FnMatchUptoSaid : Prop := fnMatchUptoRow.holds Try.pinned (OpenSpec.upto fnMatchSpec)

/-- 'laws.FnMatchStar', WHERE WHAT IT READS IS OF BULK AT MOST 1048576: true; the input reads as it did. -/
def fnMatchStarUptoRow : OpenClaim := { program := "ytdnbbodolpgphaa", sum := "4a4912307c80b152c0cafe13e6a5e7934e2d11d96b61be6816cac9506b95109e", func := "loop.example/pub-g03129/laws.FnMatchStar", spec := "fnMatchStar", apart := false, narrowed := true }
def FnMatchStarUptoSaid : Prop := fnMatchStarUptoRow.holds Try.pinned (OpenSpec.upto fnMatchStarSpec)

/-- 'laws.FnSplit', WHERE WHAT IT READS IS OF BULK AT MOST 1048576: true; the input reads as it did. -/
def fnSplitUptoRow : OpenClaim := { program := "ytdnbbodolpgphaa", sum := "4a4912307c80b152c0cafe13e6a5e7934e2d11d96b61be6816cac9506b95109e", func := "loop.example/pub-g03129/laws.FnSplit", spec := "fnSplit", apart := false, narrowed := true }
def FnSplitUptoSaid : Prop := fnSplitUptoRow.holds Try.pinned (OpenSpec.upto fnSplitSpec)

/-- 'laws.FnLabels', WHERE WHAT IT READS IS OF BULK AT MOST 1048576: true; the input reads as it did. -/
def fnLabelsUptoRow : OpenClaim := { program := "ytdnbbodolpgphaa", sum := "4a4912307c80b152c0cafe13e6a5e7934e2d11d96b61be6816cac9506b95109e", func := "loop.example/pub-g03129/laws.FnLabels", spec := "fnLabels", apart := false, narrowed := true }
def FnLabelsUptoSaid : Prop := fnLabelsUptoRow.holds Try.pinned (OpenSpec.upto fnLabelsSpec)

/-- 'laws.FnHostname', WHERE WHAT IT READS IS OF BULK AT MOST 1048576: true; the input reads as it did. -/
def fnHostnameUptoRow : OpenClaim := { program := "ytdnbbodolpgphaa", sum := "4a4912307c80b152c0cafe13e6a5e7934e2d11d96b61be6816cac9506b95109e", func := "loop.example/pub-g03129/laws.FnHostname", spec := "fnHostname", apart := false, narrowed := true }
def FnHostnameUptoSaid : Prop := fnHostnameUptoRow.holds Try.pinned (OpenSpec.upto fnHostnameSpec)

/-- 'laws.FnMailbox', WHERE WHAT IT READS IS OF BULK AT MOST 1048576: true; the input reads as it did. -/
def fnMailboxUptoRow : OpenClaim := { program := "ytdnbbodolpgphaa", sum := "4a4912307c80b152c0cafe13e6a5e7934e2d11d96b61be6816cac9506b95109e", func := "loop.example/pub-g03129/laws.FnMailbox", spec := "fnMailbox", apart := false, narrowed := true }
def FnMailboxUptoSaid : Prop := fnMailboxUptoRow.holds Try.pinned (OpenSpec.upto fnMailboxSpec)

/-- 'laws.FnMailboxAgain', WHERE WHAT IT READS IS OF BULK AT MOST 1048576: true; the input reads as it did. -/
def fnMailboxAgainUptoRow : OpenClaim := { program := "ytdnbbodolpgphaa", sum := "4a4912307c80b152c0cafe13e6a5e7934e2d11d96b61be6816cac9506b95109e", func := "loop.example/pub-g03129/laws.FnMailboxAgain", spec := "fnMailboxAgain", apart := false, narrowed := true }
def FnMailboxAgainUptoSaid : Prop := fnMailboxAgainUptoRow.holds Try.pinned (OpenSpec.upto fnMailboxAgainSpec)

/-- 'laws.FnMailboxNot', WHERE WHAT IT READS IS OF BULK AT MOST 1048576: true; the input reads as it did. -/
def fnMailboxNotUptoRow : OpenClaim := { program := "ytdnbbodolpgphaa", sum := "4a4912307c80b152c0cafe13e6a5e7934e2d11d96b61be6816cac9506b95109e", func := "loop.example/pub-g03129/laws.FnMailboxNot", spec := "fnMailboxNot", apart := false, narrowed := true }
def FnMailboxNotUptoSaid : Prop := fnMailboxNotUptoRow.holds Try.pinned (OpenSpec.upto fnMailboxNotSpec)

/-- 'laws.FnMailboxQuoted', WHERE WHAT IT READS IS OF BULK AT MOST 1048576: true; the input reads as it did. -/
def fnMailboxQuotedUptoRow : OpenClaim := { program := "ytdnbbodolpgphaa", sum := "4a4912307c80b152c0cafe13e6a5e7934e2d11d96b61be6816cac9506b95109e", func := "loop.example/pub-g03129/laws.FnMailboxQuoted", spec := "fnMailboxQuoted", apart := false, narrowed := true }
def FnMailboxQuotedUptoSaid : Prop := fnMailboxQuotedUptoRow.holds Try.pinned (OpenSpec.upto fnMailboxQuotedSpec)

end Rows
end Go.Proofs.Ytdnbbodolpgphaa
