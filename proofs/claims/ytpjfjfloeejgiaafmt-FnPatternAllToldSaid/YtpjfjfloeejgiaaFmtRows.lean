/-
  No cell of these rows narrows 'for every input' (looked for: loops, veiled, ifaces, maps, wideKeys, modest, calm, conditions, laid).
  DERIVED. THE GIVEN ROWS OF THIS SEAT. 5 by the template 'for every input the law returns true; each argument reads behind the call as it read before'; 0 by the template 'total and deterministic' (their statements: YtpjfjfloeejgiaaFmtTotals.lean).
  GIVEN WITH THE SEED: the statements are not yours to turn. If you find one false, say at which input.
  Laid BY PROGRAM, IN A SANDBOX (cutbox-rows.mjs): the forced cells as the released guide's own fill.sh prints them over the translation 7da5bb1895c0055b… (all of the seat's roots in one cut). By AI agents, Wed Nov 11 2026. No macro, syntax, notation, axiom, sorry.
-/
import Derived.Test.YtpjfjfloeejgiaaFmtChecked
import GoSem.Claim
import GoSem.ClaimJoined
import GoSem.ClaimMapViews
import Derived.JoinedTies
import Derived.KernelRfl
namespace Go.Proofs.YtpjfjfloeejgiaaFmt
/- THE CELL 'sum', in the pinned program and in every row, IS THE sha256 OF THE DUMP (.gsa) THAT YtpjfjfloeejgiaaFmtProg.lean LOADS. Nothing in Lean hashes anything: it is a label: what it is worth is what the hold of that sum in a sandbox is worth. -/
noncomputable def Tryf.pinned : Pinned := { name := "ytpjfjfloeejgiaafmt", sum := "7da5bb1895c0055bbdb96b4f54275353625f8afe4a834fc0bf6395cf7ca20b91", checked := Tryf.checked }
namespace Rows
def none {H : Type} : Left H := { results := [], args := [] }

/-- 'laws.FnPatternAll': WHATEVER THE INPUT: true; the input reads as it did. -/
def fnPatternAllSpec : ChangeSpec := { name := "fnPatternAll", fn := fun _ => fun
  | [d1, d2, d3] => { results := [.lit (.bool true)], args := [d1, d2, d3] }
  | _ => none }
def fnPatternAllRow : OpenClaim := { program := "ytpjfjfloeejgiaafmt", sum := "7da5bb1895c0055bbdb96b4f54275353625f8afe4a834fc0bf6395cf7ca20b91", func := "loop.example/pub-g01442/laws.FnPatternAll", spec := "fnPatternAll", stops := ["fmt.Sprintf, its operands' methods called"], inPlace := ["fmt.Sprintf"], unfollowed := true, recurses := true, apart := false }
/-- NO THEOREM (fmt's text is open here; it may be false): for the released tool's asking of the row's closed facts alone. THE STATEMENT IS 'FnPatternAllToldSaid' (YtpjfjfloeejgiaaFmtCards.lean). -/
def FnPatternAllFormAsk : Prop := fnPatternAllRow.holds Tryf.pinned (OpenSpec.ofChange fnPatternAllSpec)

/-- ITS FALSE NEIGHBOUR: 'it returns false'. Refute it at one input. -/
def fnPatternAllWrong : ChangeSpec := { name := "fnPatternAll", fn := fun _ => fun
  | [d1, d2, d3] => { results := [.lit (.bool false)], args := [d1, d2, d3] }
  | _ => none }
def FnPatternAllWrongFormAsk : Prop := fnPatternAllRow.holds Tryf.pinned (OpenSpec.ofChange fnPatternAllWrong)

/-- 'laws.FnPatternAnchor': WHATEVER THE INPUT: true; the input reads as it did. -/
def fnPatternAnchorSpec : ChangeSpec := { name := "fnPatternAnchor", fn := fun _ => fun
  | [d1, d2] => { results := [.lit (.bool true)], args := [d1, d2] }
  | _ => none }
def fnPatternAnchorRow : OpenClaim := { program := "ytpjfjfloeejgiaafmt", sum := "7da5bb1895c0055bbdb96b4f54275353625f8afe4a834fc0bf6395cf7ca20b91", func := "loop.example/pub-g01442/laws.FnPatternAnchor", spec := "fnPatternAnchor", stops := ["fmt.Sprintf, its operands' methods called"], inPlace := ["fmt.Sprintf"], unfollowed := true, recurses := true, apart := false }
/-- NO THEOREM (fmt's text is open here; it may be false): for the released tool's asking of the row's closed facts alone. THE STATEMENT IS 'FnPatternAnchorToldSaid' (YtpjfjfloeejgiaaFmtCards.lean). -/
def FnPatternAnchorFormAsk : Prop := fnPatternAnchorRow.holds Tryf.pinned (OpenSpec.ofChange fnPatternAnchorSpec)

/-- ITS FALSE NEIGHBOUR: 'it returns false'. Refute it at one input. -/
def fnPatternAnchorWrong : ChangeSpec := { name := "fnPatternAnchor", fn := fun _ => fun
  | [d1, d2] => { results := [.lit (.bool false)], args := [d1, d2] }
  | _ => none }
def FnPatternAnchorWrongFormAsk : Prop := fnPatternAnchorRow.holds Tryf.pinned (OpenSpec.ofChange fnPatternAnchorWrong)

/-- 'laws.FnPatternFirst': WHATEVER THE INPUT: true; the input reads as it did. -/
def fnPatternFirstSpec : ChangeSpec := { name := "fnPatternFirst", fn := fun _ => fun
  | [d1, d2, d3] => { results := [.lit (.bool true)], args := [d1, d2, d3] }
  | _ => none }
def fnPatternFirstRow : OpenClaim := { program := "ytpjfjfloeejgiaafmt", sum := "7da5bb1895c0055bbdb96b4f54275353625f8afe4a834fc0bf6395cf7ca20b91", func := "loop.example/pub-g01442/laws.FnPatternFirst", spec := "fnPatternFirst", stops := ["fmt.Sprintf, its operands' methods called"], inPlace := ["fmt.Sprintf"], unfollowed := true, recurses := true, apart := false }
/-- NO THEOREM (fmt's text is open here; it may be false): for the released tool's asking of the row's closed facts alone. THE STATEMENT IS 'FnPatternFirstToldSaid' (YtpjfjfloeejgiaaFmtCards.lean). -/
def FnPatternFirstFormAsk : Prop := fnPatternFirstRow.holds Tryf.pinned (OpenSpec.ofChange fnPatternFirstSpec)

/-- ITS FALSE NEIGHBOUR: 'it returns false'. Refute it at one input. -/
def fnPatternFirstWrong : ChangeSpec := { name := "fnPatternFirst", fn := fun _ => fun
  | [d1, d2, d3] => { results := [.lit (.bool false)], args := [d1, d2, d3] }
  | _ => none }
def FnPatternFirstWrongFormAsk : Prop := fnPatternFirstRow.holds Tryf.pinned (OpenSpec.ofChange fnPatternFirstWrong)

/-- 'laws.FnPatternPlus': WHATEVER THE INPUT: true; the input reads as it did. -/
def fnPatternPlusSpec : ChangeSpec := { name := "fnPatternPlus", fn := fun _ => fun
  | [d1, d2, d3, d4] => { results := [.lit (.bool true)], args := [d1, d2, d3, d4] }
  | _ => none }
def fnPatternPlusRow : OpenClaim := { program := "ytpjfjfloeejgiaafmt", sum := "7da5bb1895c0055bbdb96b4f54275353625f8afe4a834fc0bf6395cf7ca20b91", func := "loop.example/pub-g01442/laws.FnPatternPlus", spec := "fnPatternPlus", stops := ["fmt.Sprintf, its operands' methods called"], inPlace := ["fmt.Sprintf"], unfollowed := true, recurses := true, apart := false }
/-- NO THEOREM (fmt's text is open here; it may be false): for the released tool's asking of the row's closed facts alone. THE STATEMENT IS 'FnPatternPlusToldSaid' (YtpjfjfloeejgiaaFmtCards.lean). -/
def FnPatternPlusFormAsk : Prop := fnPatternPlusRow.holds Tryf.pinned (OpenSpec.ofChange fnPatternPlusSpec)

/-- ITS FALSE NEIGHBOUR: 'it returns false'. Refute it at one input. -/
def fnPatternPlusWrong : ChangeSpec := { name := "fnPatternPlus", fn := fun _ => fun
  | [d1, d2, d3, d4] => { results := [.lit (.bool false)], args := [d1, d2, d3, d4] }
  | _ => none }
def FnPatternPlusWrongFormAsk : Prop := fnPatternPlusRow.holds Tryf.pinned (OpenSpec.ofChange fnPatternPlusWrong)

/-- 'laws.FnPatternWhole': WHATEVER THE INPUT: true; the input reads as it did. -/
def fnPatternWholeSpec : ChangeSpec := { name := "fnPatternWhole", fn := fun _ => fun
  | [d1, d2, d3] => { results := [.lit (.bool true)], args := [d1, d2, d3] }
  | _ => none }
def fnPatternWholeRow : OpenClaim := { program := "ytpjfjfloeejgiaafmt", sum := "7da5bb1895c0055bbdb96b4f54275353625f8afe4a834fc0bf6395cf7ca20b91", func := "loop.example/pub-g01442/laws.FnPatternWhole", spec := "fnPatternWhole", stops := ["fmt.Sprintf, its operands' methods called"], inPlace := ["fmt.Sprintf"], unfollowed := true, recurses := true, apart := false }
/-- NO THEOREM (fmt's text is open here; it may be false): for the released tool's asking of the row's closed facts alone. THE STATEMENT IS 'FnPatternWholeToldSaid' (YtpjfjfloeejgiaaFmtCards.lean). -/
def FnPatternWholeFormAsk : Prop := fnPatternWholeRow.holds Tryf.pinned (OpenSpec.ofChange fnPatternWholeSpec)

/-- ITS FALSE NEIGHBOUR: 'it returns false'. Refute it at one input. -/
def fnPatternWholeWrong : ChangeSpec := { name := "fnPatternWhole", fn := fun _ => fun
  | [d1, d2, d3] => { results := [.lit (.bool false)], args := [d1, d2, d3] }
  | _ => none }
def FnPatternWholeWrongFormAsk : Prop := fnPatternWholeRow.holds Tryf.pinned (OpenSpec.ofChange fnPatternWholeWrong)

end Rows
end Go.Proofs.YtpjfjfloeejgiaaFmt
