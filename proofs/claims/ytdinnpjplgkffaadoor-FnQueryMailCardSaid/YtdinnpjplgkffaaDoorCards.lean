/-
  DERIVED. GIVEN WITH THE SEED: THE CARDS: each row of YtdinnpjplgkffaaDoorRows.lean that lists a variable, with what it lists TIED to the program's text (the seventh form; the later family's looks); each row that meets fmt, with fmt's text TOLD by the authors' own Lean function (tested against real Go, not proved from fmt's source: count such statements apart). THE CARD IS WHAT COUNTS. Prove the row's statement (the work); the ties are given (YtdinnpjplgkffaaDoorTie.lean); close each card by the builder's one call (the guide's Derived/Test/ToyasCard.lean, 'card_holds'). Laid BY PROGRAM, IN A SANDBOX (cutbox-door.mjs). By AI agents, Wed Nov 11 2026. No macro, syntax, notation, axiom, sorry.
-/
import Derived.Test.YtdinnpjplgkffaaDoorRows
import GoSem.ClaimSeven
namespace Go.Proofs.YtdinnpjplgkffaaDoor
namespace Rows

/-- THE TIED CARD OF 'laws.FnCheckMailOwn'. -/
def fnCheckMailOwnCard : Claim7 := { stood := { row := fnCheckMailOwnRow, standIns := [], harness := (true, "47dc8390ac227de7a865ba6f089e7475486b30b73b4649b8ec8f28900be40170"), looks := false }, kinds := [], alts := [], laidByText := true, laidKinds := [.data, .pinned, .pinned], laidTests := true, laidLooks := .later }
def FnCheckMailOwnCardSaid : Prop := Claim7.holds Tryd.pinned (.plain (OpenSpec.ofChange fnCheckMailOwnSpec)) fnCheckMailOwnCard

/-- THE TIED CARD OF 'laws.FnQueryDeeper'. -/
def fnQueryDeeperCard : Claim7 := { stood := { row := fnQueryDeeperRow, standIns := [], harness := (true, "47dc8390ac227de7a865ba6f089e7475486b30b73b4649b8ec8f28900be40170"), looks := false }, kinds := [], alts := [], laidByText := true, laidKinds := [.data, .pinned, .pinned], laidTests := true, laidLooks := .later }
def FnQueryDeeperCardSaid : Prop := Claim7.holds Tryd.pinned (.plain (OpenSpec.ofChange fnQueryDeeperSpec)) fnQueryDeeperCard

/-- THE TIED CARD OF 'laws.FnQueryDNS'. -/
def fnQueryDNSCard : Claim7 := { stood := { row := fnQueryDNSRow, standIns := [], harness := (true, "47dc8390ac227de7a865ba6f089e7475486b30b73b4649b8ec8f28900be40170"), looks := false }, kinds := [], alts := [], laidByText := true, laidKinds := [.data, .pinned, .pinned], laidTests := true, laidLooks := .later }
def FnQueryDNSCardSaid : Prop := Claim7.holds Tryd.pinned (.plain (OpenSpec.ofChange fnQueryDNSSpec)) fnQueryDNSCard

/-- THE TIED CARD OF 'laws.FnCheckMore'. -/
def fnCheckMoreCard : Claim7 := { stood := { row := fnCheckMoreRow, standIns := [], harness := (true, "47dc8390ac227de7a865ba6f089e7475486b30b73b4649b8ec8f28900be40170"), looks := false }, kinds := [], alts := [], laidByText := true, laidKinds := [.data, .pinned, .pinned], laidTests := true, laidLooks := .later }
def FnCheckMoreCardSaid : Prop := Claim7.holds Tryd.pinned (.plain (OpenSpec.ofChange fnCheckMoreSpec)) fnCheckMoreCard

/-- THE TIED CARD OF 'laws.FnCheckNothing'. -/
def fnCheckNothingCard : Claim7 := { stood := { row := fnCheckNothingRow, standIns := [], harness := (true, "47dc8390ac227de7a865ba6f089e7475486b30b73b4649b8ec8f28900be40170"), looks := false }, kinds := [], alts := [], laidByText := true, laidKinds := [.data, .pinned, .pinned], laidTests := true, laidLooks := .later }
def FnCheckNothingCardSaid : Prop := Claim7.holds Tryd.pinned (.plain (OpenSpec.ofChange fnCheckNothingSpec)) fnCheckNothingCard

/-- THE TIED CARD OF 'laws.FnCheckDNS'. -/
def fnCheckDNSCard : Claim7 := { stood := { row := fnCheckDNSRow, standIns := [], harness := (true, "47dc8390ac227de7a865ba6f089e7475486b30b73b4649b8ec8f28900be40170"), looks := false }, kinds := [], alts := [], laidByText := true, laidKinds := [.data, .pinned, .pinned], laidTests := true, laidLooks := .later }
def FnCheckDNSCardSaid : Prop := Claim7.holds Tryd.pinned (.plain (OpenSpec.ofChange fnCheckDNSSpec)) fnCheckDNSCard

/-- THE TIED CARD OF 'laws.FnQueryMail'. -/
def fnQueryMailCard : Claim7 := { stood := { row := fnQueryMailRow, standIns := [], harness := (true, "47dc8390ac227de7a865ba6f089e7475486b30b73b4649b8ec8f28900be40170"), looks := false }, kinds := [], alts := [], laidByText := true, laidKinds := [.data, .pinned, .pinned], laidTests := true, laidLooks := .later }
def FnQueryMailCardSaid : Prop := Claim7.holds Tryd.pinned (.plain (OpenSpec.ofChange fnQueryMailSpec)) fnQueryMailCard

/-- THE SECOND FORM's CARD OF 'laws.FnCheckMailOwn'. -/
def fnCheckMailOwnUptoCard : Claim7 := { stood := { row := fnCheckMailOwnUptoRow, standIns := [], harness := (true, "47dc8390ac227de7a865ba6f089e7475486b30b73b4649b8ec8f28900be40170"), looks := false }, kinds := [], alts := [], laidByText := true, laidKinds := [.data, .pinned, .pinned], laidTests := true, laidLooks := .later }
def FnCheckMailOwnUptoCardSaid : Prop := Claim7.holds Tryd.pinned (.plain (OpenSpec.upto fnCheckMailOwnSpec)) fnCheckMailOwnUptoCard

/-- THE SECOND FORM's CARD OF 'laws.FnQueryDeeper'. -/
def fnQueryDeeperUptoCard : Claim7 := { stood := { row := fnQueryDeeperUptoRow, standIns := [], harness := (true, "47dc8390ac227de7a865ba6f089e7475486b30b73b4649b8ec8f28900be40170"), looks := false }, kinds := [], alts := [], laidByText := true, laidKinds := [.data, .pinned, .pinned], laidTests := true, laidLooks := .later }
def FnQueryDeeperUptoCardSaid : Prop := Claim7.holds Tryd.pinned (.plain (OpenSpec.upto fnQueryDeeperSpec)) fnQueryDeeperUptoCard

/-- THE SECOND FORM's CARD OF 'laws.FnQueryDNS'. -/
def fnQueryDNSUptoCard : Claim7 := { stood := { row := fnQueryDNSUptoRow, standIns := [], harness := (true, "47dc8390ac227de7a865ba6f089e7475486b30b73b4649b8ec8f28900be40170"), looks := false }, kinds := [], alts := [], laidByText := true, laidKinds := [.data, .pinned, .pinned], laidTests := true, laidLooks := .later }
def FnQueryDNSUptoCardSaid : Prop := Claim7.holds Tryd.pinned (.plain (OpenSpec.upto fnQueryDNSSpec)) fnQueryDNSUptoCard

/-- THE SECOND FORM's CARD OF 'laws.FnCheckMore'. -/
def fnCheckMoreUptoCard : Claim7 := { stood := { row := fnCheckMoreUptoRow, standIns := [], harness := (true, "47dc8390ac227de7a865ba6f089e7475486b30b73b4649b8ec8f28900be40170"), looks := false }, kinds := [], alts := [], laidByText := true, laidKinds := [.data, .pinned, .pinned], laidTests := true, laidLooks := .later }
def FnCheckMoreUptoCardSaid : Prop := Claim7.holds Tryd.pinned (.plain (OpenSpec.upto fnCheckMoreSpec)) fnCheckMoreUptoCard

/-- THE SECOND FORM's CARD OF 'laws.FnCheckNothing'. -/
def fnCheckNothingUptoCard : Claim7 := { stood := { row := fnCheckNothingUptoRow, standIns := [], harness := (true, "47dc8390ac227de7a865ba6f089e7475486b30b73b4649b8ec8f28900be40170"), looks := false }, kinds := [], alts := [], laidByText := true, laidKinds := [.data, .pinned, .pinned], laidTests := true, laidLooks := .later }
def FnCheckNothingUptoCardSaid : Prop := Claim7.holds Tryd.pinned (.plain (OpenSpec.upto fnCheckNothingSpec)) fnCheckNothingUptoCard

/-- THE SECOND FORM's CARD OF 'laws.FnCheckDNS'. -/
def fnCheckDNSUptoCard : Claim7 := { stood := { row := fnCheckDNSUptoRow, standIns := [], harness := (true, "47dc8390ac227de7a865ba6f089e7475486b30b73b4649b8ec8f28900be40170"), looks := false }, kinds := [], alts := [], laidByText := true, laidKinds := [.data, .pinned, .pinned], laidTests := true, laidLooks := .later }
def FnCheckDNSUptoCardSaid : Prop := Claim7.holds Tryd.pinned (.plain (OpenSpec.upto fnCheckDNSSpec)) fnCheckDNSUptoCard

/-- THE SECOND FORM's CARD OF 'laws.FnQueryMail'. -/
def fnQueryMailUptoCard : Claim7 := { stood := { row := fnQueryMailUptoRow, standIns := [], harness := (true, "47dc8390ac227de7a865ba6f089e7475486b30b73b4649b8ec8f28900be40170"), looks := false }, kinds := [], alts := [], laidByText := true, laidKinds := [.data, .pinned, .pinned], laidTests := true, laidLooks := .later }
def FnQueryMailUptoCardSaid : Prop := Claim7.holds Tryd.pinned (.plain (OpenSpec.upto fnQueryMailSpec)) fnQueryMailUptoCard
end Rows
end Go.Proofs.YtdinnpjplgkffaaDoor
