/-
  DERIVED. GIVEN WITH THE SEED: THE CARDS: each row of YtdinnpjplgkffaaGreatDoorRows.lean that lists a variable, with what it lists TIED to the program's text (the seventh form; the later family's looks); each row that meets fmt, with fmt's text TOLD by the authors' own Lean function (tested against real Go, not proved from fmt's source: count such statements apart). THE CARD IS WHAT COUNTS. Prove the row's statement (the work); the ties are given (YtdinnpjplgkffaaGreatDoorTie.lean); close each card by the builder's one call (the guide's Derived/Test/ToyasCard.lean, 'card_holds'). Laid BY PROGRAM, IN A SANDBOX (cutbox-door.mjs). By AI agents, Wed Nov 11 2026. No macro, syntax, notation, axiom, sorry.
-/
import Derived.Test.YtdinnpjplgkffaaGreatDoorRows
import GoSem.ClaimSeven
namespace Go.Proofs.YtdinnpjplgkffaaGreatDoor
namespace Rows

/-- THE TIED CARD OF 'laws.FnCheckMail'. -/
def fnCheckMailCard : Claim7 := { stood := { row := fnCheckMailRow, standIns := [], harness := (true, "45903cf84b26bb45a00954d1b2df0e3bc88968098a473e3dcff6152568785826"), looks := false }, kinds := [], alts := [], laidByText := true, laidKinds := [.data, .pinned, .pinned], laidTests := true, laidLooks := .later }
def FnCheckMailCardSaid : Prop := Claim7.holds Tryz.pinned (.plain (OpenSpec.ofChange fnCheckMailSpec)) fnCheckMailCard

/-- THE SECOND FORM's CARD OF 'laws.FnCheckMail'. -/
def fnCheckMailUptoCard : Claim7 := { stood := { row := fnCheckMailUptoRow, standIns := [], harness := (true, "45903cf84b26bb45a00954d1b2df0e3bc88968098a473e3dcff6152568785826"), looks := false }, kinds := [], alts := [], laidByText := true, laidKinds := [.data, .pinned, .pinned], laidTests := true, laidLooks := .later }
def FnCheckMailUptoCardSaid : Prop := Claim7.holds Tryz.pinned (.plain (OpenSpec.upto fnCheckMailSpec)) fnCheckMailUptoCard
end Rows
end Go.Proofs.YtdinnpjplgkffaaGreatDoor
