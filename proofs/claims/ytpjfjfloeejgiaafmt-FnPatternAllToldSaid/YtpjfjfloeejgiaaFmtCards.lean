/-
  DERIVED. GIVEN WITH THE SEED: THE CARDS: each row of YtpjfjfloeejgiaaFmtRows.lean that lists a variable, with what it lists TIED to the program's text (the seventh form; the later family's looks); each row that meets fmt, with fmt's text TOLD by the authors' own Lean function (tested against real Go, not proved from fmt's source: count such statements apart). THE CARD IS WHAT COUNTS. Prove the row's statement (the work); the ties are given (YtpjfjfloeejgiaaFmtTie.lean); close each card by the builder's one call (the guide's Derived/Test/ToyasCard.lean, 'card_holds'). Laid BY PROGRAM, IN A SANDBOX (cutbox-door.mjs). By AI agents, Wed Nov 11 2026. No macro, syntax, notation, axiom, sorry.
-/
import Derived.Test.YtpjfjfloeejgiaaFmtRows
import GoSem.ClaimSeven
namespace Go.Proofs.YtpjfjfloeejgiaaFmt
namespace Rows

/-- THE TOLD CARD OF 'laws.FnPatternAll'. -/
def fnPatternAllCard : Claim7 := { stood := { row := fnPatternAllRow, standIns := [], harness := (true, "664a4c66d6a5ffa69586294182237beb772b2bddfc5b09561a9819434062ed39"), looks := true }, told := true, goes := false }
def FnPatternAllToldSaid : Prop := Claim7.holds Tryf.pinned (.plain (OpenSpec.ofChange fnPatternAllSpec)) fnPatternAllCard
/-- ITS FALSE NEIGHBOUR. Refute it at one input. -/
def FnPatternAllToldWrongFalsely : Prop := Claim7.holds Tryf.pinned (.plain (OpenSpec.ofChange fnPatternAllWrong)) fnPatternAllCard

/-- THE TOLD CARD OF 'laws.FnPatternAnchor'. -/
def fnPatternAnchorCard : Claim7 := { stood := { row := fnPatternAnchorRow, standIns := [], harness := (true, "664a4c66d6a5ffa69586294182237beb772b2bddfc5b09561a9819434062ed39"), looks := true }, told := true, goes := false }
def FnPatternAnchorToldSaid : Prop := Claim7.holds Tryf.pinned (.plain (OpenSpec.ofChange fnPatternAnchorSpec)) fnPatternAnchorCard
/-- ITS FALSE NEIGHBOUR. Refute it at one input. -/
def FnPatternAnchorToldWrongFalsely : Prop := Claim7.holds Tryf.pinned (.plain (OpenSpec.ofChange fnPatternAnchorWrong)) fnPatternAnchorCard

/-- THE TOLD CARD OF 'laws.FnPatternFirst'. -/
def fnPatternFirstCard : Claim7 := { stood := { row := fnPatternFirstRow, standIns := [], harness := (true, "664a4c66d6a5ffa69586294182237beb772b2bddfc5b09561a9819434062ed39"), looks := true }, told := true, goes := false }
def FnPatternFirstToldSaid : Prop := Claim7.holds Tryf.pinned (.plain (OpenSpec.ofChange fnPatternFirstSpec)) fnPatternFirstCard
/-- ITS FALSE NEIGHBOUR. Refute it at one input. -/
def FnPatternFirstToldWrongFalsely : Prop := Claim7.holds Tryf.pinned (.plain (OpenSpec.ofChange fnPatternFirstWrong)) fnPatternFirstCard

/-- THE TOLD CARD OF 'laws.FnPatternPlus'. -/
def fnPatternPlusCard : Claim7 := { stood := { row := fnPatternPlusRow, standIns := [], harness := (true, "664a4c66d6a5ffa69586294182237beb772b2bddfc5b09561a9819434062ed39"), looks := true }, told := true, goes := false }
def FnPatternPlusToldSaid : Prop := Claim7.holds Tryf.pinned (.plain (OpenSpec.ofChange fnPatternPlusSpec)) fnPatternPlusCard
/-- ITS FALSE NEIGHBOUR. Refute it at one input. -/
def FnPatternPlusToldWrongFalsely : Prop := Claim7.holds Tryf.pinned (.plain (OpenSpec.ofChange fnPatternPlusWrong)) fnPatternPlusCard

/-- THE TOLD CARD OF 'laws.FnPatternWhole'. -/
def fnPatternWholeCard : Claim7 := { stood := { row := fnPatternWholeRow, standIns := [], harness := (true, "664a4c66d6a5ffa69586294182237beb772b2bddfc5b09561a9819434062ed39"), looks := true }, told := true, goes := false }
def FnPatternWholeToldSaid : Prop := Claim7.holds Tryf.pinned (.plain (OpenSpec.ofChange fnPatternWholeSpec)) fnPatternWholeCard
/-- ITS FALSE NEIGHBOUR. Refute it at one input. -/
def FnPatternWholeToldWrongFalsely : Prop := Claim7.holds Tryf.pinned (.plain (OpenSpec.ofChange fnPatternWholeWrong)) fnPatternWholeCard
end Rows
end Go.Proofs.YtpjfjfloeejgiaaFmt
