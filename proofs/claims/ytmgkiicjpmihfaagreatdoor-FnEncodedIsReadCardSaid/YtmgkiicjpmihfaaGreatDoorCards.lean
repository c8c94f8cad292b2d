/-
  DERIVED. GIVEN WITH THE SEED: THE CARDS: each row of YtmgkiicjpmihfaaGreatDoorRows.lean that lists a variable, with what it lists TIED to the program's text (the seventh form; the later family's looks); each row that meets fmt, with fmt's text TOLD by the authors' own Lean function (tested against real Go, not proved from fmt's source: count such statements apart). THE CARD IS WHAT COUNTS. Prove the row's statement (the work); the ties are given (YtmgkiicjpmihfaaGreatDoorTie.lean); close each card by the builder's one call (the guide's Derived/Test/ToyasCard.lean, 'card_holds'). Laid BY PROGRAM, IN A SANDBOX (cutbox-door.mjs). By AI agents, Wed Nov 11 2026. No macro, syntax, notation, axiom, sorry.
-/
import Derived.Test.YtmgkiicjpmihfaaGreatDoorRows
import GoSem.ClaimSeven
namespace Go.Proofs.YtmgkiicjpmihfaaGreatDoor
namespace Rows

/-- THE TIED CARD OF 'laws.FnChangedIsReadOrTold'. -/
def fnChangedIsReadOrToldCard : Claim7 := { stood := { row := fnChangedIsReadOrToldRow, standIns := [], harness := (true, "42c1f3ed1694e92b8e9597c1161297a53b94c3f808b0d16ab241d6aaf84c7404"), looks := true }, kinds := [], alts := [], laidByText := true, laidKinds := [.sentinel, .sentinel, .sentinel, .data, .data, .data], laidTests := true, laidLooks := .later }
def FnChangedIsReadOrToldCardSaid : Prop := Claim7.holds Tryz.pinned (.plain (OpenSpec.ofChange fnChangedIsReadOrToldSpec)) fnChangedIsReadOrToldCard

/-- THE TIED CARD OF 'laws.FnEncodedIsRead'. -/
def fnEncodedIsReadCard : Claim7 := { stood := { row := fnEncodedIsReadRow, standIns := [], harness := (true, "42c1f3ed1694e92b8e9597c1161297a53b94c3f808b0d16ab241d6aaf84c7404"), looks := true }, kinds := [], alts := [], laidByText := true, laidKinds := [.sentinel, .sentinel, .sentinel, .data, .data, .data], laidTests := true, laidLooks := .later }
def FnEncodedIsReadCardSaid : Prop := Claim7.holds Tryz.pinned (.plain (OpenSpec.ofChange fnEncodedIsReadSpec)) fnEncodedIsReadCard

/-- THE SECOND FORM's CARD OF 'laws.FnChangedIsReadOrTold'. -/
def fnChangedIsReadOrToldUptoCard : Claim7 := { stood := { row := fnChangedIsReadOrToldUptoRow, standIns := [], harness := (true, "42c1f3ed1694e92b8e9597c1161297a53b94c3f808b0d16ab241d6aaf84c7404"), looks := true }, kinds := [], alts := [], laidByText := true, laidKinds := [.sentinel, .sentinel, .sentinel, .data, .data, .data], laidTests := true, laidLooks := .later }
def FnChangedIsReadOrToldUptoCardSaid : Prop := Claim7.holds Tryz.pinned (.plain (OpenSpec.upto fnChangedIsReadOrToldSpec)) fnChangedIsReadOrToldUptoCard

/-- THE SECOND FORM's CARD OF 'laws.FnEncodedIsRead'. -/
def fnEncodedIsReadUptoCard : Claim7 := { stood := { row := fnEncodedIsReadUptoRow, standIns := [], harness := (true, "42c1f3ed1694e92b8e9597c1161297a53b94c3f808b0d16ab241d6aaf84c7404"), looks := true }, kinds := [], alts := [], laidByText := true, laidKinds := [.sentinel, .sentinel, .sentinel, .data, .data, .data], laidTests := true, laidLooks := .later }
def FnEncodedIsReadUptoCardSaid : Prop := Claim7.holds Tryz.pinned (.plain (OpenSpec.upto fnEncodedIsReadSpec)) fnEncodedIsReadUptoCard
end Rows
end Go.Proofs.YtmgkiicjpmihfaaGreatDoor
