/-
  DERIVED. GIVEN WITH THE SEED: THE CARDS: each row of Qxb6614822aFmtRows.lean that lists a variable, with what it lists TIED to the program's text (the seventh form; the later family's looks); each row that meets fmt, with fmt's text TOLD by the authors' own Lean function (tested against real Go, not proved from fmt's source: count such statements apart). THE CARD IS WHAT COUNTS. Prove the row's statement (the work); the ties are given (Qxb6614822aFmtTie.lean); close each card by the builder's one call (the guide's Derived/Test/ToyasCard.lean, 'card_holds'). Laid BY PROGRAM, IN A SANDBOX (cutbox-door.mjs). By AI agents, Wed Nov 11 2026. No macro, syntax, notation, axiom, sorry.
-/
import Derived.Test.Qxb6614822aFmtRows
import GoSem.ClaimSeven
namespace Go.Proofs.Qxb6614822aFmt
namespace Rows

/-- THE TOLD CARD OF 'zzlaws_internal_sim_b1.FnNewSamplerRandomViewsHoldViewDistinctOthers'. -/
def fnNewSamplerRandomViewsHoldViewDistinctOthersCard : Claim7 := { stood := { row := fnNewSamplerRandomViewsHoldViewDistinctOthersRow, standIns := [], harness := (true, "09a24c2b3e458bd7ad2935d69d29afabee1a638e18949ed7acfebb8729d1eee9"), looks := true }, told := true, goes := false }
def FnNewSamplerRandomViewsHoldViewDistinctOthersToldSaid : Prop := Claim7.holds Tryf.pinned (.plain (OpenSpec.ofChange fnNewSamplerRandomViewsHoldViewDistinctOthersSpec)) fnNewSamplerRandomViewsHoldViewDistinctOthersCard
/-- ITS FALSE NEIGHBOUR. Refute it at one input. -/
def FnNewSamplerRandomViewsHoldViewDistinctOthersToldWrongFalsely : Prop := Claim7.holds Tryf.pinned (.plain (OpenSpec.ofChange fnNewSamplerRandomViewsHoldViewDistinctOthersWrong)) fnNewSamplerRandomViewsHoldViewDistinctOthersCard

/-- THE TOLD CARD OF 'zzlaws_internal_sim_b1.FnLinkViewsHoldEachNodesLinkedNodes'. -/
def fnLinkViewsHoldEachNodesLinkedNodesCard : Claim7 := { stood := { row := fnLinkViewsHoldEachNodesLinkedNodesRow, standIns := [], harness := (true, "09a24c2b3e458bd7ad2935d69d29afabee1a638e18949ed7acfebb8729d1eee9"), looks := true }, told := true, goes := false }
def FnLinkViewsHoldEachNodesLinkedNodesToldSaid : Prop := Claim7.holds Tryf.pinned (.plain (OpenSpec.ofChange fnLinkViewsHoldEachNodesLinkedNodesSpec)) fnLinkViewsHoldEachNodesLinkedNodesCard
/-- ITS FALSE NEIGHBOUR. Refute it at one input. -/
def FnLinkViewsHoldEachNodesLinkedNodesToldWrongFalsely : Prop := Claim7.holds Tryf.pinned (.plain (OpenSpec.ofChange fnLinkViewsHoldEachNodesLinkedNodesWrong)) fnLinkViewsHoldEachNodesLinkedNodesCard

/-- THE TOLD CARD OF 'zzlaws_internal_sim_b1.FnLinkViewsIgnoreOrderDirectionAndRepeats'. -/
def fnLinkViewsIgnoreOrderDirectionAndRepeatsCard : Claim7 := { stood := { row := fnLinkViewsIgnoreOrderDirectionAndRepeatsRow, standIns := [], harness := (true, "09a24c2b3e458bd7ad2935d69d29afabee1a638e18949ed7acfebb8729d1eee9"), looks := true }, told := true, goes := false }
def FnLinkViewsIgnoreOrderDirectionAndRepeatsToldSaid : Prop := Claim7.holds Tryf.pinned (.plain (OpenSpec.ofChange fnLinkViewsIgnoreOrderDirectionAndRepeatsSpec)) fnLinkViewsIgnoreOrderDirectionAndRepeatsCard
/-- ITS FALSE NEIGHBOUR. Refute it at one input. -/
def FnLinkViewsIgnoreOrderDirectionAndRepeatsToldWrongFalsely : Prop := Claim7.holds Tryf.pinned (.plain (OpenSpec.ofChange fnLinkViewsIgnoreOrderDirectionAndRepeatsWrong)) fnLinkViewsIgnoreOrderDirectionAndRepeatsCard

/-- THE TOLD AND TIED CARD OF 'zzlaws_internal_sim_b1.FnReadLinksMatchesLineAutomaton'. -/
def fnReadLinksMatchesLineAutomatonCard : Claim7 := { stood := { row := fnReadLinksMatchesLineAutomatonRow, standIns := [], harness := (true, "09a24c2b3e458bd7ad2935d69d29afabee1a638e18949ed7acfebb8729d1eee9"), looks := true }, told := true, laidByText := true, laidKinds := [.data, .data, .data, .sentinel, .sentinel, .sentinel, .sentinel, .listed, .data, .sentinel, .sentinel, .sentinel, .sentinel, .sentinel], laidTests := true, laidLooks := .later, goes := false }
def FnReadLinksMatchesLineAutomatonToldSaid : Prop := Claim7.holds Tryf.pinned (.plain (OpenSpec.ofChange fnReadLinksMatchesLineAutomatonSpec)) fnReadLinksMatchesLineAutomatonCard
/-- ITS FALSE NEIGHBOUR. Refute it at one input. -/
def FnReadLinksMatchesLineAutomatonToldWrongFalsely : Prop := Claim7.holds Tryf.pinned (.plain (OpenSpec.ofChange fnReadLinksMatchesLineAutomatonWrong)) fnReadLinksMatchesLineAutomatonCard

/-- THE TOLD AND TIED CARD OF 'zzlaws_internal_sim_b1.FnReadLinksJoinsTextsLineByLine'. -/
def fnReadLinksJoinsTextsLineByLineCard : Claim7 := { stood := { row := fnReadLinksJoinsTextsLineByLineRow, standIns := [], harness := (true, "09a24c2b3e458bd7ad2935d69d29afabee1a638e18949ed7acfebb8729d1eee9"), looks := true }, told := true, laidByText := true, laidKinds := [.data, .data, .data, .sentinel, .sentinel, .sentinel, .sentinel, .listed, .data, .sentinel, .sentinel, .sentinel, .sentinel, .sentinel], laidTests := true, laidLooks := .later, goes := false }
def FnReadLinksJoinsTextsLineByLineToldSaid : Prop := Claim7.holds Tryf.pinned (.plain (OpenSpec.ofChange fnReadLinksJoinsTextsLineByLineSpec)) fnReadLinksJoinsTextsLineByLineCard
/-- ITS FALSE NEIGHBOUR. Refute it at one input. -/
def FnReadLinksJoinsTextsLineByLineToldWrongFalsely : Prop := Claim7.holds Tryf.pinned (.plain (OpenSpec.ofChange fnReadLinksJoinsTextsLineByLineWrong)) fnReadLinksJoinsTextsLineByLineCard
end Rows
end Go.Proofs.Qxb6614822aFmt
