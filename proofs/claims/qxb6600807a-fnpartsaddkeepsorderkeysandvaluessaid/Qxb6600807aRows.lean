/-
  No cell of these rows narrows 'for every input' (looked for: loops, veiled, ifaces, maps, wideKeys, modest, calm, conditions, laid).
  DERIVED. THE GIVEN ROWS OF THIS SEAT. 6 by the template 'for every input the law returns true; each argument reads behind the call as it read before'; 0 by the template 'total and deterministic' (their statements: Qxb6600807aTotals.lean).
  GIVEN WITH THE SEED: the statements are not yours to turn. If you find one false, say at which input.
  Laid BY PROGRAM, IN A SANDBOX (cutbox-rows.mjs): the forced cells as the released guide's own fill.sh prints them over the translation 8a648bfb8793dacc… (all of the seat's roots in one cut). By AI agents, Wed Nov 11 2026. No macro, syntax, notation, axiom, sorry.
-/
import Derived.Test.Qxb6600807aChecked
import GoSem.Claim
import GoSem.ClaimJoined
import GoSem.ClaimMapViews
import Derived.JoinedTies
import Derived.KernelRfl
namespace Go.Proofs.Qxb6600807a
/- THE CELL 'sum', in the pinned program and in every row, IS THE sha256 OF THE DUMP (.gsa) THAT Qxb6600807aProg.lean LOADS. Nothing in Lean hashes anything: it is a label: what it is worth is what the hold of that sum in a sandbox is worth. -/
noncomputable def Try.pinned : Pinned := { name := "qxb6600807a", sum := "8a648bfb8793dacc319fb8b90eef8dc5eb67a5391dd74699412bab6b1c76b234", checked := Try.checked }
namespace Rows
def none {H : Type} : Left H := { results := [], args := [] }

/-- 'zzlaws_openai_b1.FnCheckNumberMatchesAutomaton': WHATEVER THE INPUT: true; the input reads as it did. -/
def fnCheckNumberMatchesAutomatonSpec : ChangeSpec := { name := "fnCheckNumberMatchesAutomaton", fn := fun _ => fun
  | [d1, d2] => { results := [.lit (.bool true)], args := [d1, d2] }
  | _ => none }
def fnCheckNumberMatchesAutomatonRow : OpenClaim := { program := "qxb6600807a", sum := "8a648bfb8793dacc319fb8b90eef8dc5eb67a5391dd74699412bab6b1c76b234", func := "example.com/urshanabi/urshanabi/zzlaws_openai_b1.FnCheckNumberMatchesAutomaton", spec := "fnCheckNumberMatchesAutomaton", apart := false }
def FnCheckNumberMatchesAutomatonSaid : Prop := fnCheckNumberMatchesAutomatonRow.holds Try.pinned (OpenSpec.ofChange fnCheckNumberMatchesAutomatonSpec)

/-- ITS FALSE NEIGHBOUR: 'it returns false'. Refute it at one input. -/
def fnCheckNumberMatchesAutomatonWrong : ChangeSpec := { name := "fnCheckNumberMatchesAutomaton", fn := fun _ => fun
  | [d1, d2] => { results := [.lit (.bool false)], args := [d1, d2] }
  | _ => none }
def FnCheckNumberMatchesAutomatonWrongFalsely : Prop := fnCheckNumberMatchesAutomatonRow.holds Try.pinned (OpenSpec.ofChange fnCheckNumberMatchesAutomatonWrong)

/-- 'zzlaws_openai_b1.FnCheckNumberStopsWithinAndIgnoresTheRest': WHATEVER THE INPUT: true; the input reads as it did. -/
def fnCheckNumberStopsWithinAndIgnoresTheRestSpec : ChangeSpec := { name := "fnCheckNumberStopsWithinAndIgnoresTheRest", fn := fun _ => fun
  | [d1, d2] => { results := [.lit (.bool true)], args := [d1, d2] }
  | _ => none }
def fnCheckNumberStopsWithinAndIgnoresTheRestRow : OpenClaim := { program := "qxb6600807a", sum := "8a648bfb8793dacc319fb8b90eef8dc5eb67a5391dd74699412bab6b1c76b234", func := "example.com/urshanabi/urshanabi/zzlaws_openai_b1.FnCheckNumberStopsWithinAndIgnoresTheRest", spec := "fnCheckNumberStopsWithinAndIgnoresTheRest", apart := false }
def FnCheckNumberStopsWithinAndIgnoresTheRestSaid : Prop := fnCheckNumberStopsWithinAndIgnoresTheRestRow.holds Try.pinned (OpenSpec.ofChange fnCheckNumberStopsWithinAndIgnoresTheRestSpec)

/-- ITS FALSE NEIGHBOUR: 'it returns false'. Refute it at one input. -/
def fnCheckNumberStopsWithinAndIgnoresTheRestWrong : ChangeSpec := { name := "fnCheckNumberStopsWithinAndIgnoresTheRest", fn := fun _ => fun
  | [d1, d2] => { results := [.lit (.bool false)], args := [d1, d2] }
  | _ => none }
def FnCheckNumberStopsWithinAndIgnoresTheRestWrongFalsely : Prop := fnCheckNumberStopsWithinAndIgnoresTheRestRow.holds Try.pinned (OpenSpec.ofChange fnCheckNumberStopsWithinAndIgnoresTheRestWrong)

/-- 'zzlaws_openai_b1.FnCheckNumberAcceptsBuiltNumber': WHATEVER THE INPUT: true; the input reads as it did. -/
def fnCheckNumberAcceptsBuiltNumberSpec : ChangeSpec := { name := "fnCheckNumberAcceptsBuiltNumber", fn := fun _ => fun
  | [d1, d2, d3, d4, d5, d6, d7] => { results := [.lit (.bool true)], args := [d1, d2, d3, d4, d5, d6, d7] }
  | _ => none }
def fnCheckNumberAcceptsBuiltNumberRow : OpenClaim := { program := "qxb6600807a", sum := "8a648bfb8793dacc319fb8b90eef8dc5eb67a5391dd74699412bab6b1c76b234", func := "example.com/urshanabi/urshanabi/zzlaws_openai_b1.FnCheckNumberAcceptsBuiltNumber", spec := "fnCheckNumberAcceptsBuiltNumber", apart := false }
def FnCheckNumberAcceptsBuiltNumberSaid : Prop := fnCheckNumberAcceptsBuiltNumberRow.holds Try.pinned (OpenSpec.ofChange fnCheckNumberAcceptsBuiltNumberSpec)

/-- ITS FALSE NEIGHBOUR: 'it returns false'. Refute it at one input. -/
def fnCheckNumberAcceptsBuiltNumberWrong : ChangeSpec := { name := "fnCheckNumberAcceptsBuiltNumber", fn := fun _ => fun
  | [d1, d2, d3, d4, d5, d6, d7] => { results := [.lit (.bool false)], args := [d1, d2, d3, d4, d5, d6, d7] }
  | _ => none }
def FnCheckNumberAcceptsBuiltNumberWrongFalsely : Prop := fnCheckNumberAcceptsBuiltNumberRow.holds Try.pinned (OpenSpec.ofChange fnCheckNumberAcceptsBuiltNumberWrong)

/-- 'zzlaws_openai_b1.FnPartsFindFirstWhileFewLastWhenMany': WHATEVER THE INPUT: true; the input reads as it did. -/
def fnPartsFindFirstWhileFewLastWhenManySpec : ChangeSpec := { name := "fnPartsFindFirstWhileFewLastWhenMany", fn := fun _ => fun
  | [d1, d2] => { results := [.lit (.bool true)], args := [d1, d2] }
  | _ => none }
def fnPartsFindFirstWhileFewLastWhenManyRow : OpenClaim := { program := "qxb6600807a", sum := "8a648bfb8793dacc319fb8b90eef8dc5eb67a5391dd74699412bab6b1c76b234", func := "example.com/urshanabi/urshanabi/zzlaws_openai_b1.FnPartsFindFirstWhileFewLastWhenMany", spec := "fnPartsFindFirstWhileFewLastWhenMany", apart := false }
def FnPartsFindFirstWhileFewLastWhenManySaid : Prop := fnPartsFindFirstWhileFewLastWhenManyRow.holds Try.pinned (OpenSpec.ofChange fnPartsFindFirstWhileFewLastWhenManySpec)

/-- ITS FALSE NEIGHBOUR: 'it returns false'. Refute it at one input. -/
def fnPartsFindFirstWhileFewLastWhenManyWrong : ChangeSpec := { name := "fnPartsFindFirstWhileFewLastWhenMany", fn := fun _ => fun
  | [d1, d2] => { results := [.lit (.bool false)], args := [d1, d2] }
  | _ => none }
def FnPartsFindFirstWhileFewLastWhenManyWrongFalsely : Prop := fnPartsFindFirstWhileFewLastWhenManyRow.holds Try.pinned (OpenSpec.ofChange fnPartsFindFirstWhileFewLastWhenManyWrong)

/-- 'zzlaws_openai_b1.FnPartsAddKeepsOrderKeysAndValues': WHATEVER THE INPUT: true; the input reads as it did. -/
def fnPartsAddKeepsOrderKeysAndValuesSpec : ChangeSpec := { name := "fnPartsAddKeepsOrderKeysAndValues", fn := fun _ => fun
  | [d1, d2] => { results := [.lit (.bool true)], args := [d1, d2] }
  | _ => none }
def fnPartsAddKeepsOrderKeysAndValuesRow : OpenClaim := { program := "qxb6600807a", sum := "8a648bfb8793dacc319fb8b90eef8dc5eb67a5391dd74699412bab6b1c76b234", func := "example.com/urshanabi/urshanabi/zzlaws_openai_b1.FnPartsAddKeepsOrderKeysAndValues", spec := "fnPartsAddKeepsOrderKeysAndValues", apart := false }
def FnPartsAddKeepsOrderKeysAndValuesSaid : Prop := fnPartsAddKeepsOrderKeysAndValuesRow.holds Try.pinned (OpenSpec.ofChange fnPartsAddKeepsOrderKeysAndValuesSpec)

/-- ITS FALSE NEIGHBOUR: 'it returns false'. Refute it at one input. -/
def fnPartsAddKeepsOrderKeysAndValuesWrong : ChangeSpec := { name := "fnPartsAddKeepsOrderKeysAndValues", fn := fun _ => fun
  | [d1, d2] => { results := [.lit (.bool false)], args := [d1, d2] }
  | _ => none }
def FnPartsAddKeepsOrderKeysAndValuesWrongFalsely : Prop := fnPartsAddKeepsOrderKeysAndValuesRow.holds Try.pinned (OpenSpec.ofChange fnPartsAddKeepsOrderKeysAndValuesWrong)

/-- 'zzlaws_openai_b1.FnPartsFindAnswersEveryStepOfAScript': WHATEVER THE INPUT: true; the input reads as it did. -/
def fnPartsFindAnswersEveryStepOfAScriptSpec : ChangeSpec := { name := "fnPartsFindAnswersEveryStepOfAScript", fn := fun _ => fun
  | [d1, d2] => { results := [.lit (.bool true)], args := [d1, d2] }
  | _ => none }
def fnPartsFindAnswersEveryStepOfAScriptRow : OpenClaim := { program := "qxb6600807a", sum := "8a648bfb8793dacc319fb8b90eef8dc5eb67a5391dd74699412bab6b1c76b234", func := "example.com/urshanabi/urshanabi/zzlaws_openai_b1.FnPartsFindAnswersEveryStepOfAScript", spec := "fnPartsFindAnswersEveryStepOfAScript", apart := false }
def FnPartsFindAnswersEveryStepOfAScriptSaid : Prop := fnPartsFindAnswersEveryStepOfAScriptRow.holds Try.pinned (OpenSpec.ofChange fnPartsFindAnswersEveryStepOfAScriptSpec)

/-- ITS FALSE NEIGHBOUR: 'it returns false'. Refute it at one input. -/
def fnPartsFindAnswersEveryStepOfAScriptWrong : ChangeSpec := { name := "fnPartsFindAnswersEveryStepOfAScript", fn := fun _ => fun
  | [d1, d2] => { results := [.lit (.bool false)], args := [d1, d2] }
  | _ => none }
def FnPartsFindAnswersEveryStepOfAScriptWrongFalsely : Prop := fnPartsFindAnswersEveryStepOfAScriptRow.holds Try.pinned (OpenSpec.ofChange fnPartsFindAnswersEveryStepOfAScriptWrong)

end Rows
end Go.Proofs.Qxb6600807a
