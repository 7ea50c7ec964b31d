/-
  DERIVED. GIVEN WITH THE SEED: THE CARDS: each row of YtjepdlmcombmcaaGreatDoorRows.lean that lists a variable, with what it lists TIED to the program's text (the seventh form; the later family's looks); each row that meets fmt, with fmt's text TOLD by the authors' own Lean function (tested against real Go, not proved from fmt's source: count such statements apart). THE CARD IS WHAT COUNTS. Prove the row's statement (the work); the ties are given (YtjepdlmcombmcaaGreatDoorTie.lean); close each card by the builder's one call (the guide's Derived/Test/ToyasCard.lean, 'card_holds'). Laid BY PROGRAM, IN A SANDBOX (cutbox-door.mjs). By AI agents, Wed Nov 11 2026. No macro, syntax, notation, axiom, sorry.
-/
import Derived.Test.YtjepdlmcombmcaaGreatDoorRows
import GoSem.ClaimSeven
namespace Go.Proofs.YtjepdlmcombmcaaGreatDoor
namespace Rows

/-- THE TIED CARD OF 'laws.FnSplitExact'. -/
def fnSplitExactCard : Claim7 := { stood := { row := fnSplitExactRow, standIns := [], harness := (true, "60ee7b1e6f6330ddfe5b314bae643fe4125a2b1a15d9edf6d7c2d31ba2e3dc2d"), looks := true }, kinds := [], alts := [], laidByText := true, laidKinds := [.data, .data, .data, .data, .handle, .sentinel, .sentinel, .listed, .sentinel, .pinned], laidTests := true, laidLooks := .later }
def FnSplitExactCardSaid : Prop := Claim7.holds Tryz.pinned (.plain (OpenSpec.ofChange fnSplitExactSpec)) fnSplitExactCard

/-- THE TIED CARD OF 'laws.FnTypeCase'. -/
def fnTypeCaseCard : Claim7 := { stood := { row := fnTypeCaseRow, standIns := [], harness := (true, "60ee7b1e6f6330ddfe5b314bae643fe4125a2b1a15d9edf6d7c2d31ba2e3dc2d"), looks := true }, kinds := [], alts := [], laidByText := true, laidKinds := [.data, .data, .data, .data, .sentinel, .sentinel, .listed, .sentinel, .pinned], laidTests := true, laidLooks := .later }
def FnTypeCaseCardSaid : Prop := Claim7.holds Tryz.pinned (.plain (OpenSpec.ofChange fnTypeCaseSpec)) fnTypeCaseCard

/-- THE SECOND FORM's CARD OF 'laws.FnSplitExact'. -/
def fnSplitExactUptoCard : Claim7 := { stood := { row := fnSplitExactUptoRow, standIns := [], harness := (true, "60ee7b1e6f6330ddfe5b314bae643fe4125a2b1a15d9edf6d7c2d31ba2e3dc2d"), looks := true }, kinds := [], alts := [], laidByText := true, laidKinds := [.data, .data, .data, .data, .handle, .sentinel, .sentinel, .listed, .sentinel, .pinned], laidTests := true, laidLooks := .later }
def FnSplitExactUptoCardSaid : Prop := Claim7.holds Tryz.pinned (.plain (OpenSpec.upto fnSplitExactSpec)) fnSplitExactUptoCard

/-- THE SECOND FORM's CARD OF 'laws.FnTypeCase'. -/
def fnTypeCaseUptoCard : Claim7 := { stood := { row := fnTypeCaseUptoRow, standIns := [], harness := (true, "60ee7b1e6f6330ddfe5b314bae643fe4125a2b1a15d9edf6d7c2d31ba2e3dc2d"), looks := true }, kinds := [], alts := [], laidByText := true, laidKinds := [.data, .data, .data, .data, .sentinel, .sentinel, .listed, .sentinel, .pinned], laidTests := true, laidLooks := .later }
def FnTypeCaseUptoCardSaid : Prop := Claim7.holds Tryz.pinned (.plain (OpenSpec.upto fnTypeCaseSpec)) fnTypeCaseUptoCard
end Rows
end Go.Proofs.YtjepdlmcombmcaaGreatDoor
