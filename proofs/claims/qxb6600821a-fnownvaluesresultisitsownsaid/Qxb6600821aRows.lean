/-
  No cell of these rows narrows 'for every input' (looked for: loops, veiled, ifaces, maps, wideKeys, modest, calm, conditions, laid).
  DERIVED. THE GIVEN ROWS OF THIS SEAT. 6 by the template 'for every input the law returns true; each argument reads behind the call as it read before'; 0 by the template 'total and deterministic' (their statements: Qxb6600821aTotals.lean).
  GIVEN WITH THE SEED: the statements are not yours to turn. If you find one false, say at which input.
  Laid BY PROGRAM, IN A SANDBOX (cutbox-rows.mjs): the forced cells as the released guide's own fill.sh prints them over the translation d84f740771e1dac5… (all of the seat's roots in one cut). By AI agents, Wed Nov 11 2026. No macro, syntax, notation, axiom, sorry.
-/
import Derived.Test.Qxb6600821aChecked
import GoSem.Claim
import GoSem.ClaimJoined
import GoSem.ClaimMapViews
import Derived.JoinedTies
import Derived.KernelRfl
namespace Go.Proofs.Qxb6600821a
/- THE CELL 'sum', in the pinned program and in every row, IS THE sha256 OF THE DUMP (.gsa) THAT Qxb6600821aProg.lean LOADS. Nothing in Lean hashes anything: it is a label: what it is worth is what the hold of that sum in a sandbox is worth. -/
noncomputable def Try.pinned : Pinned := { name := "qxb6600821a", sum := "d84f740771e1dac59ffae67f6ce2a452809a6705646175ea4a8b9c38776d9cd5", checked := Try.checked }
namespace Rows
def none {H : Type} : Left H := { results := [], args := [] }

/-- 'zzlaws_pkg_xmldoc_b1.FnPseudoAttrMatchesGrammar': WHATEVER THE INPUT: true; the input reads as it did. -/
def fnPseudoAttrMatchesGrammarSpec : ChangeSpec := { name := "fnPseudoAttrMatchesGrammar", fn := fun _ => fun
  | [d1, d2] => { results := [.lit (.bool true)], args := [d1, d2] }
  | _ => none }
def fnPseudoAttrMatchesGrammarRow : OpenClaim := { program := "qxb6600821a", sum := "d84f740771e1dac59ffae67f6ce2a452809a6705646175ea4a8b9c38776d9cd5", func := "example.com/descontal/descontal/zzlaws_pkg_xmldoc_b1.FnPseudoAttrMatchesGrammar", spec := "fnPseudoAttrMatchesGrammar", inPlace := ["internal/bytealg.IndexByteString", "internal/bytealg.IndexString"], unfollowed := true, recurses := true, named := ["internal/bytealg.MaxLen"], apart := false }
def FnPseudoAttrMatchesGrammarSaid : Prop := fnPseudoAttrMatchesGrammarRow.holds Try.pinned (OpenSpec.ofChange fnPseudoAttrMatchesGrammarSpec)

/-- ITS FALSE NEIGHBOUR: 'it returns false'. Refute it at one input. -/
def fnPseudoAttrMatchesGrammarWrong : ChangeSpec := { name := "fnPseudoAttrMatchesGrammar", fn := fun _ => fun
  | [d1, d2] => { results := [.lit (.bool false)], args := [d1, d2] }
  | _ => none }
def FnPseudoAttrMatchesGrammarWrongFalsely : Prop := fnPseudoAttrMatchesGrammarRow.holds Try.pinned (OpenSpec.ofChange fnPseudoAttrMatchesGrammarWrong)

/-- 'zzlaws_pkg_xmldoc_b1.FnPseudoAttrReadsBackWhatWasWritten': WHATEVER THE INPUT: true; the input reads as it did. -/
def fnPseudoAttrReadsBackWhatWasWrittenSpec : ChangeSpec := { name := "fnPseudoAttrReadsBackWhatWasWritten", fn := fun _ => fun
  | [d1, d2, d3, d4, d5, d6, d7] => { results := [.lit (.bool true)], args := [d1, d2, d3, d4, d5, d6, d7] }
  | _ => none }
def fnPseudoAttrReadsBackWhatWasWrittenRow : OpenClaim := { program := "qxb6600821a", sum := "d84f740771e1dac59ffae67f6ce2a452809a6705646175ea4a8b9c38776d9cd5", func := "example.com/descontal/descontal/zzlaws_pkg_xmldoc_b1.FnPseudoAttrReadsBackWhatWasWritten", spec := "fnPseudoAttrReadsBackWhatWasWritten", inPlace := ["internal/bytealg.IndexByteString", "internal/bytealg.IndexString"], unfollowed := true, recurses := true, named := ["internal/bytealg.MaxLen"], apart := false }
def FnPseudoAttrReadsBackWhatWasWrittenSaid : Prop := fnPseudoAttrReadsBackWhatWasWrittenRow.holds Try.pinned (OpenSpec.ofChange fnPseudoAttrReadsBackWhatWasWrittenSpec)

/-- ITS FALSE NEIGHBOUR: 'it returns false'. Refute it at one input. -/
def fnPseudoAttrReadsBackWhatWasWrittenWrong : ChangeSpec := { name := "fnPseudoAttrReadsBackWhatWasWritten", fn := fun _ => fun
  | [d1, d2, d3, d4, d5, d6, d7] => { results := [.lit (.bool false)], args := [d1, d2, d3, d4, d5, d6, d7] }
  | _ => none }
def FnPseudoAttrReadsBackWhatWasWrittenWrongFalsely : Prop := fnPseudoAttrReadsBackWhatWasWrittenRow.holds Try.pinned (OpenSpec.ofChange fnPseudoAttrReadsBackWhatWasWrittenWrong)

/-- 'zzlaws_pkg_xmldoc_b1.FnEndMatchesCaseTable': WHATEVER THE INPUT: true; the input reads as it did. -/
def fnEndMatchesCaseTableSpec : ChangeSpec := { name := "fnEndMatchesCaseTable", fn := fun _ => fun
  | [d1, d2, d3, d4] => { results := [.lit (.bool true)], args := [d1, d2, d3, d4] }
  | _ => none }
def fnEndMatchesCaseTableRow : OpenClaim := { program := "qxb6600821a", sum := "d84f740771e1dac59ffae67f6ce2a452809a6705646175ea4a8b9c38776d9cd5", func := "example.com/descontal/descontal/zzlaws_pkg_xmldoc_b1.FnEndMatchesCaseTable", spec := "fnEndMatchesCaseTable", apart := false }
def FnEndMatchesCaseTableSaid : Prop := fnEndMatchesCaseTableRow.holds Try.pinned (OpenSpec.ofChange fnEndMatchesCaseTableSpec)

/-- ITS FALSE NEIGHBOUR: 'it returns false'. Refute it at one input. -/
def fnEndMatchesCaseTableWrong : ChangeSpec := { name := "fnEndMatchesCaseTable", fn := fun _ => fun
  | [d1, d2, d3, d4] => { results := [.lit (.bool false)], args := [d1, d2, d3, d4] }
  | _ => none }
def FnEndMatchesCaseTableWrongFalsely : Prop := fnEndMatchesCaseTableRow.holds Try.pinned (OpenSpec.ofChange fnEndMatchesCaseTableWrong)

/-- 'zzlaws_pkg_xmldoc_b1.FnEndingEveryElementClosesThemInReverse': WHATEVER THE INPUT: true; the input reads as it did. -/
def fnEndingEveryElementClosesThemInReverseSpec : ChangeSpec := { name := "fnEndingEveryElementClosesThemInReverse", fn := fun _ => fun
  | [d1, d2, d3, d4] => { results := [.lit (.bool true)], args := [d1, d2, d3, d4] }
  | _ => none }
def fnEndingEveryElementClosesThemInReverseRow : OpenClaim := { program := "qxb6600821a", sum := "d84f740771e1dac59ffae67f6ce2a452809a6705646175ea4a8b9c38776d9cd5", func := "example.com/descontal/descontal/zzlaws_pkg_xmldoc_b1.FnEndingEveryElementClosesThemInReverse", spec := "fnEndingEveryElementClosesThemInReverse", apart := false }
def FnEndingEveryElementClosesThemInReverseSaid : Prop := fnEndingEveryElementClosesThemInReverseRow.holds Try.pinned (OpenSpec.ofChange fnEndingEveryElementClosesThemInReverseSpec)

/-- ITS FALSE NEIGHBOUR: 'it returns false'. Refute it at one input. -/
def fnEndingEveryElementClosesThemInReverseWrong : ChangeSpec := { name := "fnEndingEveryElementClosesThemInReverse", fn := fun _ => fun
  | [d1, d2, d3, d4] => { results := [.lit (.bool false)], args := [d1, d2, d3, d4] }
  | _ => none }
def FnEndingEveryElementClosesThemInReverseWrongFalsely : Prop := fnEndingEveryElementClosesThemInReverseRow.holds Try.pinned (OpenSpec.ofChange fnEndingEveryElementClosesThemInReverseWrong)

/-- 'zzlaws_pkg_xmldoc_b1.FnOwnValuesCopiesEveryAttribute': WHATEVER THE INPUT: true; the input reads as it did. -/
def fnOwnValuesCopiesEveryAttributeSpec : ChangeSpec := { name := "fnOwnValuesCopiesEveryAttribute", fn := fun _ => fun
  | [d1, d2] => { results := [.lit (.bool true)], args := [d1, d2] }
  | _ => none }
def fnOwnValuesCopiesEveryAttributeRow : OpenClaim := { program := "qxb6600821a", sum := "d84f740771e1dac59ffae67f6ce2a452809a6705646175ea4a8b9c38776d9cd5", func := "example.com/descontal/descontal/zzlaws_pkg_xmldoc_b1.FnOwnValuesCopiesEveryAttribute", spec := "fnOwnValuesCopiesEveryAttribute", inPlace := ["internal/abi.NoEscape", "internal/bytealg.MakeNoZero"], apart := false }
def FnOwnValuesCopiesEveryAttributeSaid : Prop := fnOwnValuesCopiesEveryAttributeRow.holds Try.pinned (OpenSpec.ofChange fnOwnValuesCopiesEveryAttributeSpec)

/-- ITS FALSE NEIGHBOUR: 'it returns false'. Refute it at one input. -/
def fnOwnValuesCopiesEveryAttributeWrong : ChangeSpec := { name := "fnOwnValuesCopiesEveryAttribute", fn := fun _ => fun
  | [d1, d2] => { results := [.lit (.bool false)], args := [d1, d2] }
  | _ => none }
def FnOwnValuesCopiesEveryAttributeWrongFalsely : Prop := fnOwnValuesCopiesEveryAttributeRow.holds Try.pinned (OpenSpec.ofChange fnOwnValuesCopiesEveryAttributeWrong)

/-- 'zzlaws_pkg_xmldoc_b1.FnOwnValuesResultIsItsOwn': WHATEVER THE INPUT: true; the input reads as it did. -/
def fnOwnValuesResultIsItsOwnSpec : ChangeSpec := { name := "fnOwnValuesResultIsItsOwn", fn := fun _ => fun
  | [d1, d2] => { results := [.lit (.bool true)], args := [d1, d2] }
  | _ => none }
def fnOwnValuesResultIsItsOwnRow : OpenClaim := { program := "qxb6600821a", sum := "d84f740771e1dac59ffae67f6ce2a452809a6705646175ea4a8b9c38776d9cd5", func := "example.com/descontal/descontal/zzlaws_pkg_xmldoc_b1.FnOwnValuesResultIsItsOwn", spec := "fnOwnValuesResultIsItsOwn", inPlace := ["internal/abi.NoEscape", "internal/bytealg.MakeNoZero"], apart := false }
def FnOwnValuesResultIsItsOwnSaid : Prop := fnOwnValuesResultIsItsOwnRow.holds Try.pinned (OpenSpec.ofChange fnOwnValuesResultIsItsOwnSpec)

/-- ITS FALSE NEIGHBOUR: 'it returns false'. Refute it at one input. -/
def fnOwnValuesResultIsItsOwnWrong : ChangeSpec := { name := "fnOwnValuesResultIsItsOwn", fn := fun _ => fun
  | [d1, d2] => { results := [.lit (.bool false)], args := [d1, d2] }
  | _ => none }
def FnOwnValuesResultIsItsOwnWrongFalsely : Prop := fnOwnValuesResultIsItsOwnRow.holds Try.pinned (OpenSpec.ofChange fnOwnValuesResultIsItsOwnWrong)

end Rows
end Go.Proofs.Qxb6600821a
