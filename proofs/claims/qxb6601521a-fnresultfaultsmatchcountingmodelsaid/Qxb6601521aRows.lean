/-
  No cell of these rows narrows 'for every input' (looked for: loops, veiled, ifaces, maps, wideKeys, modest, calm, conditions, laid).
  DERIVED. THE GIVEN ROWS OF THIS SEAT. 6 by the template 'for every input the law returns true; each argument reads behind the call as it read before'; 0 by the template 'total and deterministic' (their statements: Qxb6601521aTotals.lean).
  GIVEN WITH THE SEED: the statements are not yours to turn. If you find one false, say at which input.
  Laid BY PROGRAM, IN A SANDBOX (cutbox-rows.mjs): the forced cells as the released guide's own fill.sh prints them over the translation 580cbb977faf5478… (all of the seat's roots in one cut). By AI agents, Wed Nov 11 2026. No macro, syntax, notation, axiom, sorry.
-/
import Derived.Test.Qxb6601521aChecked
import GoSem.Claim
import GoSem.ClaimJoined
import GoSem.ClaimMapViews
import Derived.JoinedTies
import Derived.KernelRfl
namespace Go.Proofs.Qxb6601521a
/- THE CELL 'sum', in the pinned program and in every row, IS THE sha256 OF THE DUMP (.gsa) THAT Qxb6601521aProg.lean LOADS. Nothing in Lean hashes anything: it is a label: what it is worth is what the hold of that sum in a sandbox is worth. -/
noncomputable def Try.pinned : Pinned := { name := "qxb6601521a", sum := "580cbb977faf5478b756712c26c8431ddfa651995f471cbd30fe324669cc831f", checked := Try.checked }
namespace Rows
def none {H : Type} : Left H := { results := [], args := [] }

/-- 'zzlaws_root_b1.FnHistoryFaultsMatchCountingModel': WHATEVER THE INPUT: true; the input reads as it did. -/
def fnHistoryFaultsMatchCountingModelSpec : ChangeSpec := { name := "fnHistoryFaultsMatchCountingModel", fn := fun _ => fun
  | [d] => { results := [.lit (.bool true)], args := [d] }
  | _ => none }
def fnHistoryFaultsMatchCountingModelRow : OpenClaim := { program := "qxb6601521a", sum := "580cbb977faf5478b756712c26c8431ddfa651995f471cbd30fe324669cc831f", func := "example.com/turnstone/turnstone/zzlaws_root_b1.FnHistoryFaultsMatchCountingModel", spec := "fnHistoryFaultsMatchCountingModel", unfollowed := true, recurses := true, apart := false }
def FnHistoryFaultsMatchCountingModelSaid : Prop := fnHistoryFaultsMatchCountingModelRow.holds Try.pinned (OpenSpec.ofChange fnHistoryFaultsMatchCountingModelSpec)

/-- ITS FALSE NEIGHBOUR: 'it returns false'. Refute it at one input. -/
def fnHistoryFaultsMatchCountingModelWrong : ChangeSpec := { name := "fnHistoryFaultsMatchCountingModel", fn := fun _ => fun
  | [d] => { results := [.lit (.bool false)], args := [d] }
  | _ => none }
def FnHistoryFaultsMatchCountingModelWrongFalsely : Prop := fnHistoryFaultsMatchCountingModelRow.holds Try.pinned (OpenSpec.ofChange fnHistoryFaultsMatchCountingModelWrong)

/-- 'zzlaws_root_b1.FnHistoryFaultsPointAtRealPlacesInOrder': WHATEVER THE INPUT: true; the input reads as it did. -/
def fnHistoryFaultsPointAtRealPlacesInOrderSpec : ChangeSpec := { name := "fnHistoryFaultsPointAtRealPlacesInOrder", fn := fun _ => fun
  | [d] => { results := [.lit (.bool true)], args := [d] }
  | _ => none }
def fnHistoryFaultsPointAtRealPlacesInOrderRow : OpenClaim := { program := "qxb6601521a", sum := "580cbb977faf5478b756712c26c8431ddfa651995f471cbd30fe324669cc831f", func := "example.com/turnstone/turnstone/zzlaws_root_b1.FnHistoryFaultsPointAtRealPlacesInOrder", spec := "fnHistoryFaultsPointAtRealPlacesInOrder", unfollowed := true, recurses := true, apart := false }
def FnHistoryFaultsPointAtRealPlacesInOrderSaid : Prop := fnHistoryFaultsPointAtRealPlacesInOrderRow.holds Try.pinned (OpenSpec.ofChange fnHistoryFaultsPointAtRealPlacesInOrderSpec)

/-- ITS FALSE NEIGHBOUR: 'it returns false'. Refute it at one input. -/
def fnHistoryFaultsPointAtRealPlacesInOrderWrong : ChangeSpec := { name := "fnHistoryFaultsPointAtRealPlacesInOrder", fn := fun _ => fun
  | [d] => { results := [.lit (.bool false)], args := [d] }
  | _ => none }
def FnHistoryFaultsPointAtRealPlacesInOrderWrongFalsely : Prop := fnHistoryFaultsPointAtRealPlacesInOrderRow.holds Try.pinned (OpenSpec.ofChange fnHistoryFaultsPointAtRealPlacesInOrderWrong)

/-- 'zzlaws_root_b1.FnHistoryFaultsSplitAtANonToolMessage': WHATEVER THE INPUT: true; the input reads as it did. -/
def fnHistoryFaultsSplitAtANonToolMessageSpec : ChangeSpec := { name := "fnHistoryFaultsSplitAtANonToolMessage", fn := fun _ => fun
  | [d1, d2] => { results := [.lit (.bool true)], args := [d1, d2] }
  | _ => none }
def fnHistoryFaultsSplitAtANonToolMessageRow : OpenClaim := { program := "qxb6601521a", sum := "580cbb977faf5478b756712c26c8431ddfa651995f471cbd30fe324669cc831f", func := "example.com/turnstone/turnstone/zzlaws_root_b1.FnHistoryFaultsSplitAtANonToolMessage", spec := "fnHistoryFaultsSplitAtANonToolMessage", unfollowed := true, recurses := true, apart := false }
def FnHistoryFaultsSplitAtANonToolMessageSaid : Prop := fnHistoryFaultsSplitAtANonToolMessageRow.holds Try.pinned (OpenSpec.ofChange fnHistoryFaultsSplitAtANonToolMessageSpec)

/-- ITS FALSE NEIGHBOUR: 'it returns false'. Refute it at one input. -/
def fnHistoryFaultsSplitAtANonToolMessageWrong : ChangeSpec := { name := "fnHistoryFaultsSplitAtANonToolMessage", fn := fun _ => fun
  | [d1, d2] => { results := [.lit (.bool false)], args := [d1, d2] }
  | _ => none }
def FnHistoryFaultsSplitAtANonToolMessageWrongFalsely : Prop := fnHistoryFaultsSplitAtANonToolMessageRow.holds Try.pinned (OpenSpec.ofChange fnHistoryFaultsSplitAtANonToolMessageWrong)

/-- 'zzlaws_root_b1.FnResultFaultsMatchCountingModel': WHATEVER THE INPUT: true; the input reads as it did. -/
def fnResultFaultsMatchCountingModelSpec : ChangeSpec := { name := "fnResultFaultsMatchCountingModel", fn := fun _ => fun
  | [d1, d2, d3] => { results := [.lit (.bool true)], args := [d1, d2, d3] }
  | _ => none }
def fnResultFaultsMatchCountingModelRow : OpenClaim := { program := "qxb6601521a", sum := "580cbb977faf5478b756712c26c8431ddfa651995f471cbd30fe324669cc831f", func := "example.com/turnstone/turnstone/zzlaws_root_b1.FnResultFaultsMatchCountingModel", spec := "fnResultFaultsMatchCountingModel", unfollowed := true, recurses := true, apart := false }
def FnResultFaultsMatchCountingModelSaid : Prop := fnResultFaultsMatchCountingModelRow.holds Try.pinned (OpenSpec.ofChange fnResultFaultsMatchCountingModelSpec)

/-- ITS FALSE NEIGHBOUR: 'it returns false'. Refute it at one input. -/
def fnResultFaultsMatchCountingModelWrong : ChangeSpec := { name := "fnResultFaultsMatchCountingModel", fn := fun _ => fun
  | [d1, d2, d3] => { results := [.lit (.bool false)], args := [d1, d2, d3] }
  | _ => none }
def FnResultFaultsMatchCountingModelWrongFalsely : Prop := fnResultFaultsMatchCountingModelRow.holds Try.pinned (OpenSpec.ofChange fnResultFaultsMatchCountingModelWrong)

/-- 'zzlaws_root_b1.FnResultFaultsAreHistoryFaultsOfThatReply': WHATEVER THE INPUT: true; the input reads as it did. -/
def fnResultFaultsAreHistoryFaultsOfThatReplySpec : ChangeSpec := { name := "fnResultFaultsAreHistoryFaultsOfThatReply", fn := fun _ => fun
  | [d1, d2] => { results := [.lit (.bool true)], args := [d1, d2] }
  | _ => none }
def fnResultFaultsAreHistoryFaultsOfThatReplyRow : OpenClaim := { program := "qxb6601521a", sum := "580cbb977faf5478b756712c26c8431ddfa651995f471cbd30fe324669cc831f", func := "example.com/turnstone/turnstone/zzlaws_root_b1.FnResultFaultsAreHistoryFaultsOfThatReply", spec := "fnResultFaultsAreHistoryFaultsOfThatReply", unfollowed := true, recurses := true, apart := false }
def FnResultFaultsAreHistoryFaultsOfThatReplySaid : Prop := fnResultFaultsAreHistoryFaultsOfThatReplyRow.holds Try.pinned (OpenSpec.ofChange fnResultFaultsAreHistoryFaultsOfThatReplySpec)

/-- ITS FALSE NEIGHBOUR: 'it returns false'. Refute it at one input. -/
def fnResultFaultsAreHistoryFaultsOfThatReplyWrong : ChangeSpec := { name := "fnResultFaultsAreHistoryFaultsOfThatReply", fn := fun _ => fun
  | [d1, d2] => { results := [.lit (.bool false)], args := [d1, d2] }
  | _ => none }
def FnResultFaultsAreHistoryFaultsOfThatReplyWrongFalsely : Prop := fnResultFaultsAreHistoryFaultsOfThatReplyRow.holds Try.pinned (OpenSpec.ofChange fnResultFaultsAreHistoryFaultsOfThatReplyWrong)

/-- 'zzlaws_root_b1.FnResultFaultsBalanceResultsAgainstCalls': WHATEVER THE INPUT: true; the input reads as it did. -/
def fnResultFaultsBalanceResultsAgainstCallsSpec : ChangeSpec := { name := "fnResultFaultsBalanceResultsAgainstCalls", fn := fun _ => fun
  | [d1, d2] => { results := [.lit (.bool true)], args := [d1, d2] }
  | _ => none }
def fnResultFaultsBalanceResultsAgainstCallsRow : OpenClaim := { program := "qxb6601521a", sum := "580cbb977faf5478b756712c26c8431ddfa651995f471cbd30fe324669cc831f", func := "example.com/turnstone/turnstone/zzlaws_root_b1.FnResultFaultsBalanceResultsAgainstCalls", spec := "fnResultFaultsBalanceResultsAgainstCalls", unfollowed := true, recurses := true, apart := false }
def FnResultFaultsBalanceResultsAgainstCallsSaid : Prop := fnResultFaultsBalanceResultsAgainstCallsRow.holds Try.pinned (OpenSpec.ofChange fnResultFaultsBalanceResultsAgainstCallsSpec)

/-- ITS FALSE NEIGHBOUR: 'it returns false'. Refute it at one input. -/
def fnResultFaultsBalanceResultsAgainstCallsWrong : ChangeSpec := { name := "fnResultFaultsBalanceResultsAgainstCalls", fn := fun _ => fun
  | [d1, d2] => { results := [.lit (.bool false)], args := [d1, d2] }
  | _ => none }
def FnResultFaultsBalanceResultsAgainstCallsWrongFalsely : Prop := fnResultFaultsBalanceResultsAgainstCallsRow.holds Try.pinned (OpenSpec.ofChange fnResultFaultsBalanceResultsAgainstCallsWrong)

end Rows
end Go.Proofs.Qxb6601521a
