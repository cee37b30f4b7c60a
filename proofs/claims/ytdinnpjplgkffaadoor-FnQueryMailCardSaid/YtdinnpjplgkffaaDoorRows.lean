/-
  NARROWER THAN 'FOR EVERY INPUT', by the rows' own cells (each row's printed sentence says how): FnCheckMailOwn: laid · FnQueryDeeper: laid · FnQueryDNS: laid · FnCheckMore: laid · FnCheckNothing: laid · FnCheckDNS: laid · FnQueryMail: laid.
  DERIVED. THE GIVEN ROWS OF THIS SEAT. 7 by the template 'for every input the law returns true; each argument reads behind the call as it read before'; 0 by the template 'total and deterministic' (their statements: YtdinnpjplgkffaaDoorTotals.lean).
  GIVEN WITH THE SEED: the statements are not yours to turn. If you find one false, say at which input.
  Laid BY PROGRAM, IN A SANDBOX (cutbox-rows.mjs): the forced cells as the released guide's own fill.sh prints them over the translation 74661a16e9ddb737… (all of the seat's roots in one cut). By AI agents, Wed Nov 11 2026. No macro, syntax, notation, axiom, sorry.
-/
import Derived.Test.YtdinnpjplgkffaaDoorChecked
import GoSem.PinnedTables
import GoSem.Claim
import GoSem.ClaimJoined
import GoSem.ClaimMapViews
import Derived.JoinedTies
import Derived.KernelRfl
namespace Go.Proofs.YtdinnpjplgkffaaDoor
/- THE CELL 'sum', in the pinned program and in every row, IS THE sha256 OF THE DUMP (.gsa) THAT YtdinnpjplgkffaaDoorProg.lean LOADS. Nothing in Lean hashes anything: it is a label: what it is worth is what the hold of that sum in a sandbox is worth. -/
noncomputable def Tryd.pinned : Pinned := { name := "ytdinnpjplgkffaadoor", sum := "74661a16e9ddb7372fa2890c5a662edf3f4b42fb970b584bc87d302836c09ffb", checked := Tryd.checked }
namespace Rows
def none {H : Type} : Left H := { results := [], args := [] }

/- WHAT THE LISTED PACKAGE-LEVEL VARIABLES READ AS WHEN THE CALL BEGINS. Each datum BY PROGRAM (the guide's laid-datum.mjs) off the statement by which the dump's own 'gosem.cut.vars' lays the variable. In a bare row this is a premise. The card (YtdinnpjplgkffaaDoorCards.lean) ties it to the program's text. -/
def laid_unicode_utf8_acceptRanges {H : Type} : DataW H := .agg [.agg [.lit (.int .u8 128), .lit (.int .u8 191)], .agg [.lit (.int .u8 160), .lit (.int .u8 191)], .agg [.lit (.int .u8 128), .lit (.int .u8 159)], .agg [.lit (.int .u8 144), .lit (.int .u8 191)], .agg [.lit (.int .u8 128), .lit (.int .u8 143)], .agg [.lit (.int .u8 0), .lit (.int .u8 0)], .agg [.lit (.int .u8 0), .lit (.int .u8 0)], .agg [.lit (.int .u8 0), .lit (.int .u8 0)], .agg [.lit (.int .u8 0), .lit (.int .u8 0)], .agg [.lit (.int .u8 0), .lit (.int .u8 0)], .agg [.lit (.int .u8 0), .lit (.int .u8 0)], .agg [.lit (.int .u8 0), .lit (.int .u8 0)], .agg [.lit (.int .u8 0), .lit (.int .u8 0)], .agg [.lit (.int .u8 0), .lit (.int .u8 0)], .agg [.lit (.int .u8 0), .lit (.int .u8 0)], .agg [.lit (.int .u8 0), .lit (.int .u8 0)]]
/-- One of Go's own tables, pinned by name: the form's constant. -/
def laid_unicode_CaseRanges : DataW Unit := Go.Pinned.caseRanges
/-- One of Go's own tables, pinned by name: the form's constant. -/
def laid_unicode_utf8_first : DataW Unit := Go.Pinned.utf8First

/-- 'laws.FnCheckMailOwn': WHATEVER THE INPUT: true; the input reads as it did. -/
def fnCheckMailOwnSpec : ChangeSpec := { name := "fnCheckMailOwn", fn := fun _ => fun
  | [d1, d2, d3] => { results := [.lit (.bool true)], args := [d1, d2, d3] }
  | _ => none }
def fnCheckMailOwnRow : OpenClaim := { program := "ytdinnpjplgkffaadoor", sum := "74661a16e9ddb7372fa2890c5a662edf3f4b42fb970b584bc87d302836c09ffb", func := "loop.example/pub-g03129/laws.FnCheckMailOwn", spec := "fnCheckMailOwn", inPlace := ["internal/abi.NoEscape", "internal/bytealg.MakeNoZero", "internal/bytealg.IndexByteString"], unfollowed := true, recurses := true, named := ["unicode/utf8.first", "unicode/utf8.acceptRanges", "unicode.CaseRanges"], plainKeys := false, apart := false, laid := [("unicode/utf8.acceptRanges", laid_unicode_utf8_acceptRanges), ("unicode.CaseRanges", laid_unicode_CaseRanges), ("unicode/utf8.first", laid_unicode_utf8_first)] }
def FnCheckMailOwnSaid : Prop := fnCheckMailOwnRow.holds Tryd.pinned (OpenSpec.ofChange fnCheckMailOwnSpec)

/-- ITS FALSE NEIGHBOUR: 'it returns false'. Refute it at one input. -/
def fnCheckMailOwnWrong : ChangeSpec := { name := "fnCheckMailOwn", fn := fun _ => fun
  | [d1, d2, d3] => { results := [.lit (.bool false)], args := [d1, d2, d3] }
  | _ => none }
def FnCheckMailOwnWrongFalsely : Prop := fnCheckMailOwnRow.holds Tryd.pinned (OpenSpec.ofChange fnCheckMailOwnWrong)

/-- 'laws.FnQueryDeeper': WHATEVER THE INPUT: true; the input reads as it did. -/
def fnQueryDeeperSpec : ChangeSpec := { name := "fnQueryDeeper", fn := fun _ => fun
  | [d1, d2, d3, d4, d5] => { results := [.lit (.bool true)], args := [d1, d2, d3, d4, d5] }
  | _ => none }
def fnQueryDeeperRow : OpenClaim := { program := "ytdinnpjplgkffaadoor", sum := "74661a16e9ddb7372fa2890c5a662edf3f4b42fb970b584bc87d302836c09ffb", func := "loop.example/pub-g03129/laws.FnQueryDeeper", spec := "fnQueryDeeper", inPlace := ["internal/abi.NoEscape", "internal/bytealg.MakeNoZero", "internal/bytealg.IndexByteString"], unfollowed := true, recurses := true, named := ["unicode/utf8.first", "unicode/utf8.acceptRanges", "unicode.CaseRanges"], plainKeys := false, apart := false, laid := [("unicode/utf8.acceptRanges", laid_unicode_utf8_acceptRanges), ("unicode.CaseRanges", laid_unicode_CaseRanges), ("unicode/utf8.first", laid_unicode_utf8_first)] }
def FnQueryDeeperSaid : Prop := fnQueryDeeperRow.holds Tryd.pinned (OpenSpec.ofChange fnQueryDeeperSpec)

/-- ITS FALSE NEIGHBOUR: 'it returns false'. Refute it at one input. -/
def fnQueryDeeperWrong : ChangeSpec := { name := "fnQueryDeeper", fn := fun _ => fun
  | [d1, d2, d3, d4, d5] => { results := [.lit (.bool false)], args := [d1, d2, d3, d4, d5] }
  | _ => none }
def FnQueryDeeperWrongFalsely : Prop := fnQueryDeeperRow.holds Tryd.pinned (OpenSpec.ofChange fnQueryDeeperWrong)

/-- 'laws.FnQueryDNS': WHATEVER THE INPUT: true; the input reads as it did. -/
def fnQueryDNSSpec : ChangeSpec := { name := "fnQueryDNS", fn := fun _ => fun
  | [d1, d2, d3] => { results := [.lit (.bool true)], args := [d1, d2, d3] }
  | _ => none }
def fnQueryDNSRow : OpenClaim := { program := "ytdinnpjplgkffaadoor", sum := "74661a16e9ddb7372fa2890c5a662edf3f4b42fb970b584bc87d302836c09ffb", func := "loop.example/pub-g03129/laws.FnQueryDNS", spec := "fnQueryDNS", inPlace := ["internal/abi.NoEscape", "internal/bytealg.MakeNoZero", "internal/bytealg.IndexByteString"], unfollowed := true, recurses := true, named := ["unicode/utf8.first", "unicode/utf8.acceptRanges", "unicode.CaseRanges"], plainKeys := false, apart := false, laid := [("unicode/utf8.acceptRanges", laid_unicode_utf8_acceptRanges), ("unicode.CaseRanges", laid_unicode_CaseRanges), ("unicode/utf8.first", laid_unicode_utf8_first)] }
def FnQueryDNSSaid : Prop := fnQueryDNSRow.holds Tryd.pinned (OpenSpec.ofChange fnQueryDNSSpec)

/-- ITS FALSE NEIGHBOUR: 'it returns false'. Refute it at one input. -/
def fnQueryDNSWrong : ChangeSpec := { name := "fnQueryDNS", fn := fun _ => fun
  | [d1, d2, d3] => { results := [.lit (.bool false)], args := [d1, d2, d3] }
  | _ => none }
def FnQueryDNSWrongFalsely : Prop := fnQueryDNSRow.holds Tryd.pinned (OpenSpec.ofChange fnQueryDNSWrong)

/-- 'laws.FnCheckMore': WHATEVER THE INPUT: true; the input reads as it did. -/
def fnCheckMoreSpec : ChangeSpec := { name := "fnCheckMore", fn := fun _ => fun
  | [d1, d2, d3, d4] => { results := [.lit (.bool true)], args := [d1, d2, d3, d4] }
  | _ => none }
def fnCheckMoreRow : OpenClaim := { program := "ytdinnpjplgkffaadoor", sum := "74661a16e9ddb7372fa2890c5a662edf3f4b42fb970b584bc87d302836c09ffb", func := "loop.example/pub-g03129/laws.FnCheckMore", spec := "fnCheckMore", inPlace := ["internal/abi.NoEscape", "internal/bytealg.MakeNoZero", "internal/bytealg.IndexByteString"], unfollowed := true, recurses := true, named := ["unicode/utf8.first", "unicode/utf8.acceptRanges", "unicode.CaseRanges"], plainKeys := false, apart := false, laid := [("unicode/utf8.acceptRanges", laid_unicode_utf8_acceptRanges), ("unicode.CaseRanges", laid_unicode_CaseRanges), ("unicode/utf8.first", laid_unicode_utf8_first)] }
def FnCheckMoreSaid : Prop := fnCheckMoreRow.holds Tryd.pinned (OpenSpec.ofChange fnCheckMoreSpec)

/-- ITS FALSE NEIGHBOUR: 'it returns false'. Refute it at one input. -/
def fnCheckMoreWrong : ChangeSpec := { name := "fnCheckMore", fn := fun _ => fun
  | [d1, d2, d3, d4] => { results := [.lit (.bool false)], args := [d1, d2, d3, d4] }
  | _ => none }
def FnCheckMoreWrongFalsely : Prop := fnCheckMoreRow.holds Tryd.pinned (OpenSpec.ofChange fnCheckMoreWrong)

/-- 'laws.FnCheckNothing': WHATEVER THE INPUT: true; the input reads as it did. -/
def fnCheckNothingSpec : ChangeSpec := { name := "fnCheckNothing", fn := fun _ => fun
  | [d] => { results := [.lit (.bool true)], args := [d] }
  | _ => none }
def fnCheckNothingRow : OpenClaim := { program := "ytdinnpjplgkffaadoor", sum := "74661a16e9ddb7372fa2890c5a662edf3f4b42fb970b584bc87d302836c09ffb", func := "loop.example/pub-g03129/laws.FnCheckNothing", spec := "fnCheckNothing", inPlace := ["internal/abi.NoEscape", "internal/bytealg.MakeNoZero", "internal/bytealg.IndexByteString"], unfollowed := true, recurses := true, named := ["unicode/utf8.first", "unicode/utf8.acceptRanges", "unicode.CaseRanges"], plainKeys := false, apart := false, laid := [("unicode/utf8.acceptRanges", laid_unicode_utf8_acceptRanges), ("unicode.CaseRanges", laid_unicode_CaseRanges), ("unicode/utf8.first", laid_unicode_utf8_first)] }
def FnCheckNothingSaid : Prop := fnCheckNothingRow.holds Tryd.pinned (OpenSpec.ofChange fnCheckNothingSpec)

/-- ITS FALSE NEIGHBOUR: 'it returns false'. Refute it at one input. -/
def fnCheckNothingWrong : ChangeSpec := { name := "fnCheckNothing", fn := fun _ => fun
  | [d] => { results := [.lit (.bool false)], args := [d] }
  | _ => none }
def FnCheckNothingWrongFalsely : Prop := fnCheckNothingRow.holds Tryd.pinned (OpenSpec.ofChange fnCheckNothingWrong)

/-- 'laws.FnCheckDNS': WHATEVER THE INPUT: true; the input reads as it did. -/
def fnCheckDNSSpec : ChangeSpec := { name := "fnCheckDNS", fn := fun _ => fun
  | [d1, d2, d3] => { results := [.lit (.bool true)], args := [d1, d2, d3] }
  | _ => none }
def fnCheckDNSRow : OpenClaim := { program := "ytdinnpjplgkffaadoor", sum := "74661a16e9ddb7372fa2890c5a662edf3f4b42fb970b584bc87d302836c09ffb", func := "loop.example/pub-g03129/laws.FnCheckDNS", spec := "fnCheckDNS", inPlace := ["internal/abi.NoEscape", "internal/bytealg.MakeNoZero", "internal/bytealg.IndexByteString"], unfollowed := true, recurses := true, named := ["unicode/utf8.first", "unicode/utf8.acceptRanges", "unicode.CaseRanges"], plainKeys := false, apart := false, laid := [("unicode/utf8.acceptRanges", laid_unicode_utf8_acceptRanges), ("unicode.CaseRanges", laid_unicode_CaseRanges), ("unicode/utf8.first", laid_unicode_utf8_first)] }
def FnCheckDNSSaid : Prop := fnCheckDNSRow.holds Tryd.pinned (OpenSpec.ofChange fnCheckDNSSpec)

/-- ITS FALSE NEIGHBOUR: 'it returns false'. Refute it at one input. -/
def fnCheckDNSWrong : ChangeSpec := { name := "fnCheckDNS", fn := fun _ => fun
  | [d1, d2, d3] => { results := [.lit (.bool false)], args := [d1, d2, d3] }
  | _ => none }
def FnCheckDNSWrongFalsely : Prop := fnCheckDNSRow.holds Tryd.pinned (OpenSpec.ofChange fnCheckDNSWrong)

/-- 'laws.FnQueryMail': WHATEVER THE INPUT: true; the input reads as it did. -/
def fnQueryMailSpec : ChangeSpec := { name := "fnQueryMail", fn := fun _ => fun
  | [d1, d2, d3, d4] => { results := [.lit (.bool true)], args := [d1, d2, d3, d4] }
  | _ => none }
def fnQueryMailRow : OpenClaim := { program := "ytdinnpjplgkffaadoor", sum := "74661a16e9ddb7372fa2890c5a662edf3f4b42fb970b584bc87d302836c09ffb", func := "loop.example/pub-g03129/laws.FnQueryMail", spec := "fnQueryMail", inPlace := ["internal/abi.NoEscape", "internal/bytealg.MakeNoZero", "internal/bytealg.IndexByteString"], unfollowed := true, recurses := true, named := ["unicode/utf8.first", "unicode/utf8.acceptRanges", "unicode.CaseRanges"], plainKeys := false, apart := false, laid := [("unicode/utf8.acceptRanges", laid_unicode_utf8_acceptRanges), ("unicode.CaseRanges", laid_unicode_CaseRanges), ("unicode/utf8.first", laid_unicode_utf8_first)] }
def FnQueryMailSaid : Prop := fnQueryMailRow.holds Tryd.pinned (OpenSpec.ofChange fnQueryMailSpec)

/-- ITS FALSE NEIGHBOUR: 'it returns false'. Refute it at one input. -/
def fnQueryMailWrong : ChangeSpec := { name := "fnQueryMail", fn := fun _ => fun
  | [d1, d2, d3, d4] => { results := [.lit (.bool false)], args := [d1, d2, d3, d4] }
  | _ => none }
def FnQueryMailWrongFalsely : Prop := fnQueryMailRow.holds Tryd.pinned (OpenSpec.ofChange fnQueryMailWrong)

/- THE SECOND FORM. 'bulk': how many values and letters a reading holds, each counted each time it is reached (what is shared counts as often as it is met; a slice's spare places count too). A statement '..UptoSaid' is the law's where the arguments, and the package variables that the reading takes, are together of bulk at most 1048576: NARROWER than '..Said'. Prove '..Said' where nothing that the law and all that it calls make is longer than what came in: it says more and counts as full. Else prove '..UptoSaid'. A law counts once. -/
mutual
def uptoBulk {H : Type} : DataW H → Nat
  | .lit (.string bytes) => bytes.length + 1
  | .lit _ => 1
  | .nil => 1
  | .ptr d => uptoBulk d + 1
  | .slice elems spare => uptoBulkAll elems + uptoBulkAll spare + 1
  | .agg parts => uptoBulkAll parts + 1
  | .iface _ d => uptoBulk d + 1
  | .map entries => uptoBulkEntries entries + 1
  | .held _ => 1
def uptoBulkAll {H : Type} : List (DataW H) → Nat
  | [] => 0
  | d :: r => uptoBulk d + uptoBulkAll r
def uptoBulkEntries {H : Type} : List (Lit × DataW H) → Nat
  | [] => 0
  | x :: r => uptoBulkEntry x + uptoBulkEntries r
def uptoBulkEntry {H : Type} : Lit × DataW H → Nat
  | (.string bytes, d) => bytes.length + uptoBulk d + 1
  | (_, d) => uptoBulk d + 1
 end
def uptoSmall : (H : Type) → List (DataW H) → Bool := fun _ ds => decide (uptoBulkAll ds ≤ 1048576)
def OpenSpec.upto (s : _root_.Go.ChangeSpec) : _root_.Go.OpenSpec := { _root_.Go.OpenSpec.ofChange s with cond := some uptoSmall }

/-- 'laws.FnCheckMailOwn', WHERE WHAT IT READS IS OF BULK AT MOST 1048576: true; the input reads as it did. -/
def fnCheckMailOwnUptoRow : OpenClaim := { program := "ytdinnpjplgkffaadoor", sum := "74661a16e9ddb7372fa2890c5a662edf3f4b42fb970b584bc87d302836c09ffb", func := "loop.example/pub-g03129/laws.FnCheckMailOwn", spec := "fnCheckMailOwn", inPlace := ["internal/abi.NoEscape", "internal/bytealg.MakeNoZero", "internal/bytealg.IndexByteString"], unfollowed := true, recurses := true, named := ["unicode/utf8.first", "unicode/utf8.acceptRanges", "unicode.CaseRanges"], plainKeys := false, apart := false, laid := [("unicode/utf8.acceptRanges", laid_unicode_utf8_acceptRanges), ("unicode.CaseRanges", laid_unicode_CaseRanges), ("unicode/utf8.first", laid_unicode_utf8_first)], narrowed := true }
def FnCheckMailOwnUptoSaid : Prop := fnCheckMailOwnUptoRow.holds Tryd.pinned (OpenSpec.upto fnCheckMailOwnSpec)

/-- 'laws.FnQueryDeeper', WHERE WHAT IT READS IS OF BULK AT MOST 1048576: true; the input reads as it did. -/
def fnQueryDeeperUptoRow : OpenClaim := { program := "ytdinnpjplgkffaadoor", sum := "74661a16e9ddb7372fa2890c5a662edf3f4b42fb970b584bc87d302836c09ffb", func := "loop.example/pub-g03129/laws.FnQueryDeeper", spec := "fnQueryDeeper", inPlace := ["internal/abi.NoEscape", "internal/bytealg.MakeNoZero", "internal/bytealg.IndexByteString"], unfollowed := true, recurses := true, named := ["unicode/utf8.first", "unicode/utf8.acceptRanges", "unicode.CaseRanges"], plainKeys := false, apart := false, laid := [("unicode/utf8.acceptRanges", laid_unicode_utf8_acceptRanges), ("unicode.CaseRanges", laid_unicode_CaseRanges), ("unicode/utf8.first", laid_unicode_utf8_first)], narrowed := true }
def FnQueryDeeperUptoSaid : Prop := fnQueryDeeperUptoRow.holds Tryd.pinned (OpenSpec.upto fnQueryDeeperSpec)

/-- 'laws.FnQueryDNS', WHERE WHAT IT READS IS OF BULK AT MOST 1048576: true; the input reads as it did. -/
def fnQueryDNSUptoRow : OpenClaim := { program := "ytdinnpjplgkffaadoor", sum := "74661a16e9ddb7372fa2890c5a662edf3f4b42fb970b584bc87d302836c09ffb", func := "loop.example/pub-g03129/laws.FnQueryDNS", spec := "fnQueryDNS", inPlace := ["internal/abi.NoEscape", "internal/bytealg.MakeNoZero", "internal/bytealg.IndexByteString"], unfollowed := true, recurses := true, named := ["unicode/utf8.first", "unicode/utf8.acceptRanges", "unicode.CaseRanges"], plainKeys := false, apart := false, laid := [("unicode/utf8.acceptRanges", laid_unicode_utf8_acceptRanges), ("unicode.CaseRanges", laid_unicode_CaseRanges), ("unicode/utf8.first", laid_unicode_utf8_first)], narrowed := true }
def FnQueryDNSUptoSaid : Prop := fnQueryDNSUptoRow.holds Tryd.pinned (OpenSpec.upto fnQueryDNSSpec)

/-- 'laws.FnCheckMore', WHERE WHAT IT READS IS OF BULK AT MOST 1048576: true; the input reads as it did. -/
def fnCheckMoreUptoRow : OpenClaim := { program := "ytdinnpjplgkffaadoor", sum := "74661a16e9ddb7372fa2890c5a662edf3f4b42fb970b584bc87d302836c09ffb", func := "loop.example/pub-g03129/laws.FnCheckMore", spec := "fnCheckMore", inPlace := ["internal/abi.NoEscape", "internal/bytealg.MakeNoZero", "internal/bytealg.IndexByteString"], unfollowed := true, recurses := true, named := ["unicode/utf8.first", "unicode/utf8.acceptRanges", "unicode.CaseRanges"], plainKeys := false, apart := false, laid := [("unicode/utf8.acceptRanges", laid_unicode_utf8_acceptRanges), ("unicode.CaseRanges", laid_unicode_CaseRanges), ("unicode/utf8.first", laid_unicode_utf8_first)], narrowed := true }
def FnCheckMoreUptoSaid : Prop := fnCheckMoreUptoRow.holds Tryd.pinned (OpenSpec.upto fnCheckMoreSpec)

/-- 'laws.FnCheckNothing', WHERE WHAT IT READS IS OF BULK AT MOST 1048576: true; the input reads as it did. -/
def fnCheckNothingUptoRow : OpenClaim := { program := "ytdinnpjplgkffaadoor", sum := "74661a16e9ddb7372fa2890c5a662edf3f4b42fb970b584bc87d302836c09ffb", func := "loop.example/pub-g03129/laws.FnCheckNothing", spec := "fnCheckNothing", inPlace := ["internal/abi.NoEscape", "internal/bytealg.MakeNoZero", "internal/bytealg.IndexByteString"], unfollowed := true, recurses := true, named := ["unicode/utf8.first", "unicode/utf8.acceptRanges", "unicode.CaseRanges"], plainKeys := false, apart := false, laid := [("unicode/utf8.acceptRanges", laid_unicode_utf8_acceptRanges), ("unicode.CaseRanges", laid_unicode_CaseRanges), ("unicode/utf8.first", laid_unicode_utf8_first)], narrowed := true }
def FnCheckNothingUptoSaid : Prop := fnCheckNothingUptoRow.holds Tryd.pinned (OpenSpec.upto fnCheckNothingSpec)

/-- 'laws.FnCheckDNS', WHERE WHAT IT READS IS OF BULK AT MOST 1048576: true; the input reads as it did. -/
def fnCheckDNSUptoRow : OpenClaim := { program := "ytdinnpjplgkffaadoor", sum := "74661a16e9ddb7372fa2890c5a662edf3f4b42fb970b584bc87d302836c09ffb", func := "loop.example/pub-g03129/laws.FnCheckDNS", spec := "fnCheckDNS", inPlace := ["internal/abi.NoEscape", "internal/bytealg.MakeNoZero", "internal/bytealg.IndexByteString"], unfollowed := true, recurses := true, named := ["unicode/utf8.first", "unicode/utf8.acceptRanges", "unicode.CaseRanges"], plainKeys := false, apart := false, laid := [("unicode/utf8.acceptRanges", laid_unicode_utf8_acceptRanges), ("unicode.CaseRanges", laid_unicode_CaseRanges), ("unicode/utf8.first", laid_unicode_utf8_first)], narrowed := true }
def FnCheckDNSUptoSaid : Prop := fnCheckDNSUptoRow.holds Tryd.pinned (OpenSpec.upto fnCheckDNSSpec)

/-- 'laws.FnQueryMail', WHERE WHAT IT READS IS OF BULK AT MOST 1048576: true; the input reads as it did. -/
def fnQueryMailUptoRow : OpenClaim := { program := "ytdinnpjplgkffaadoor", sum := "74661a16e9ddb7372fa2890c5a662edf3f4b42fb970b584bc87d302836c09ffb", func := "loop.example/pub-g03129/laws.FnQueryMail", spec := "fnQueryMail", inPlace := ["internal/abi.NoEscape", "internal/bytealg.MakeNoZero", "internal/bytealg.IndexByteString"], unfollowed := true, recurses := true, named := ["unicode/utf8.first", "unicode/utf8.acceptRanges", "unicode.CaseRanges"], plainKeys := false, apart := false, laid := [("unicode/utf8.acceptRanges", laid_unicode_utf8_acceptRanges), ("unicode.CaseRanges", laid_unicode_CaseRanges), ("unicode/utf8.first", laid_unicode_utf8_first)], narrowed := true }
def FnQueryMailUptoSaid : Prop := fnQueryMailUptoRow.holds Tryd.pinned (OpenSpec.upto fnQueryMailSpec)

end Rows
end Go.Proofs.YtdinnpjplgkffaaDoor
