/-
  DERIVED. GIVEN WITH THE SEED: THE CARDS: each row of YtoimaaonloibfaaGreatDoorRows.lean that lists a variable, with what it lists TIED to the program's text (the seventh form; the later family's looks); each row that meets fmt, with fmt's text TOLD by the authors' own Lean function (tested against real Go, not proved from fmt's source: count such statements apart). THE CARD IS WHAT COUNTS. Prove the row's statement (the work); the ties are given (YtoimaaonloibfaaGreatDoorTie.lean); close each card by the builder's one call (the guide's Derived/Test/ToyasCard.lean, 'card_holds'). Laid BY PROGRAM, IN A SANDBOX (cutbox-door.mjs). By AI agents, Wed Nov 11 2026. No macro, syntax, notation, axiom, sorry.
-/
import Derived.Test.YtoimaaonloibfaaGreatDoorRows
import GoSem.ClaimSeven
namespace Go.Proofs.YtoimaaonloibfaaGreatDoor
namespace Rows

/-- THE TIED CARD OF 'laws.FnTokensSpaced'. -/
def fnTokensSpacedCard : Claim7 := { stood := { row := fnTokensSpacedRow, standIns := [], harness := (true, "0ae6580bfa55f52525181882939aeacc6c3e533d2aa474a748ec097b9a09e0ac"), looks := true }, kinds := [], alts := [], laidByText := true, laidKinds := [.data, .data, .data, .sentinel, .sentinel, .sentinel, .sentinel, .sentinel, .sentinel, .sentinel, .mapped, .data], laidTests := true, laidLooks := .later }
def FnTokensSpacedCardSaid : Prop := Claim7.holds Tryz.pinned (.plain (OpenSpec.ofChange fnTokensSpacedSpec)) fnTokensSpacedCard

/-- THE SECOND FORM's CARD OF 'laws.FnTokensSpaced'. -/
def fnTokensSpacedUptoCard : Claim7 := { stood := { row := fnTokensSpacedUptoRow, standIns := [], harness := (true, "0ae6580bfa55f52525181882939aeacc6c3e533d2aa474a748ec097b9a09e0ac"), looks := true }, kinds := [], alts := [], laidByText := true, laidKinds := [.data, .data, .data, .sentinel, .sentinel, .sentinel, .sentinel, .sentinel, .sentinel, .sentinel, .mapped, .data], laidTests := true, laidLooks := .later }
def FnTokensSpacedUptoCardSaid : Prop := Claim7.holds Tryz.pinned (.plain (OpenSpec.upto fnTokensSpacedSpec)) fnTokensSpacedUptoCard
end Rows
end Go.Proofs.YtoimaaonloibfaaGreatDoor
