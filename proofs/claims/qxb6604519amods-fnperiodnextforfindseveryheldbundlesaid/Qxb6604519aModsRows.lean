/-
  No cell of these rows narrows 'for every input' (looked for: loops, veiled, ifaces, maps, wideKeys, modest, calm, conditions, laid).
  DERIVED. THE GIVEN ROWS OF THIS SEAT. 5 by the template 'for every input the law returns true; each argument reads behind the call as it read before'; 0 by the template 'total and deterministic' (their statements: Qxb6604519aModsTotals.lean).
  GIVEN WITH THE SEED: the statements are not yours to turn. If you find one false, say at which input.
  Laid BY PROGRAM, IN A SANDBOX (cutbox-rows.mjs): the forced cells as the released guide's own fill.sh prints them over the translation 2425b7ded46ff575… (all of the seat's roots in one cut). By AI agents, Wed Nov 11 2026. No macro, syntax, notation, axiom, sorry.
-/
import Derived.Test.Qxb6604519aModsChecked
import GoSem.Claim
import GoSem.ClaimJoined
import GoSem.ClaimMapViews
import Derived.JoinedTies
import Derived.KernelRfl
namespace Go.Proofs.Qxb6604519aMods
/- THE CELL 'sum', in the pinned program and in every row, IS THE sha256 OF THE DUMP (.gsa) THAT Qxb6604519aModsProg.lean LOADS. Nothing in Lean hashes anything: it is a label: what it is worth is what the hold of that sum in a sandbox is worth. -/
noncomputable def Trym.pinned : Pinned := { name := "qxb6604519amods", sum := "2425b7ded46ff575e04fe310a6d28d00b00002f95565a8d2eae398733ebaabf8", checked := Trym.checked }
namespace Rows
def none {H : Type} : Left H := { results := [], args := [] }

/-- 'zzlaws_agreement_b1.FnRoundOfVoteMessage': WHATEVER THE INPUT: true; the input reads as it did. -/
def fnRoundOfVoteMessageSpec : ChangeSpec := { name := "fnRoundOfVoteMessage", fn := fun _ => fun
  | [d1, d2, d3, d4, d5, d6, d7, d8, d9, d10] => { results := [.lit (.bool true)], args := [d1, d2, d3, d4, d5, d6, d7, d8, d9, d10] }
  | _ => none }
def fnRoundOfVoteMessageRow : OpenClaim := { program := "qxb6604519amods", sum := "2425b7ded46ff575e04fe310a6d28d00b00002f95565a8d2eae398733ebaabf8", func := "example.com/sortilege/sortilege/zzlaws_agreement_b1.FnRoundOfVoteMessage", spec := "fnRoundOfVoteMessage", plainKeys := false, make := .lifted ["publicsums"], apart := false }
def FnRoundOfVoteMessageSaid : Prop := fnRoundOfVoteMessageRow.holds Trym.pinned (OpenSpec.ofChange fnRoundOfVoteMessageSpec)

/-- ITS FALSE NEIGHBOUR: 'it returns false'. Refute it at one input. -/
def fnRoundOfVoteMessageWrong : ChangeSpec := { name := "fnRoundOfVoteMessage", fn := fun _ => fun
  | [d1, d2, d3, d4, d5, d6, d7, d8, d9, d10] => { results := [.lit (.bool false)], args := [d1, d2, d3, d4, d5, d6, d7, d8, d9, d10] }
  | _ => none }
def FnRoundOfVoteMessageWrongFalsely : Prop := fnRoundOfVoteMessageRow.holds Trym.pinned (OpenSpec.ofChange fnRoundOfVoteMessageWrong)

/-- 'zzlaws_agreement_b1.FnTallyCountIsFirstEntryOfValue': WHATEVER THE INPUT: true; the input reads as it did. -/
def fnTallyCountIsFirstEntryOfValueSpec : ChangeSpec := { name := "fnTallyCountIsFirstEntryOfValue", fn := fun _ => fun
  | [d1, d2] => { results := [.lit (.bool true)], args := [d1, d2] }
  | _ => none }
def fnTallyCountIsFirstEntryOfValueRow : OpenClaim := { program := "qxb6604519amods", sum := "2425b7ded46ff575e04fe310a6d28d00b00002f95565a8d2eae398733ebaabf8", func := "example.com/sortilege/sortilege/zzlaws_agreement_b1.FnTallyCountIsFirstEntryOfValue", spec := "fnTallyCountIsFirstEntryOfValue", plainKeys := false, make := .lifted ["publicsums"], apart := false }
def FnTallyCountIsFirstEntryOfValueSaid : Prop := fnTallyCountIsFirstEntryOfValueRow.holds Trym.pinned (OpenSpec.ofChange fnTallyCountIsFirstEntryOfValueSpec)

/-- ITS FALSE NEIGHBOUR: 'it returns false'. Refute it at one input. -/
def fnTallyCountIsFirstEntryOfValueWrong : ChangeSpec := { name := "fnTallyCountIsFirstEntryOfValue", fn := fun _ => fun
  | [d1, d2] => { results := [.lit (.bool false)], args := [d1, d2] }
  | _ => none }
def FnTallyCountIsFirstEntryOfValueWrongFalsely : Prop := fnTallyCountIsFirstEntryOfValueRow.holds Trym.pinned (OpenSpec.ofChange fnTallyCountIsFirstEntryOfValueWrong)

/-- 'zzlaws_agreement_b1.FnTallyWeightShiftsWithPairsAndSeparatesCounted': WHATEVER THE INPUT: true; the input reads as it did. -/
def fnTallyWeightShiftsWithPairsAndSeparatesCountedSpec : ChangeSpec := { name := "fnTallyWeightShiftsWithPairsAndSeparatesCounted", fn := fun _ => fun
  | [d1, d2, d3, d4, d5] => { results := [.lit (.bool true)], args := [d1, d2, d3, d4, d5] }
  | _ => none }
def fnTallyWeightShiftsWithPairsAndSeparatesCountedRow : OpenClaim := { program := "qxb6604519amods", sum := "2425b7ded46ff575e04fe310a6d28d00b00002f95565a8d2eae398733ebaabf8", func := "example.com/sortilege/sortilege/zzlaws_agreement_b1.FnTallyWeightShiftsWithPairsAndSeparatesCounted", spec := "fnTallyWeightShiftsWithPairsAndSeparatesCounted", plainKeys := false, make := .lifted ["publicsums"], apart := false }
def FnTallyWeightShiftsWithPairsAndSeparatesCountedSaid : Prop := fnTallyWeightShiftsWithPairsAndSeparatesCountedRow.holds Trym.pinned (OpenSpec.ofChange fnTallyWeightShiftsWithPairsAndSeparatesCountedSpec)

/-- ITS FALSE NEIGHBOUR: 'it returns false'. Refute it at one input. -/
def fnTallyWeightShiftsWithPairsAndSeparatesCountedWrong : ChangeSpec := { name := "fnTallyWeightShiftsWithPairsAndSeparatesCounted", fn := fun _ => fun
  | [d1, d2, d3, d4, d5] => { results := [.lit (.bool false)], args := [d1, d2, d3, d4, d5] }
  | _ => none }
def FnTallyWeightShiftsWithPairsAndSeparatesCountedWrongFalsely : Prop := fnTallyWeightShiftsWithPairsAndSeparatesCountedRow.holds Trym.pinned (OpenSpec.ofChange fnTallyWeightShiftsWithPairsAndSeparatesCountedWrong)

/-- 'zzlaws_agreement_b1.FnPeriodNextForIsFirstHeldBundle': WHATEVER THE INPUT: true; the input reads as it did. -/
def fnPeriodNextForIsFirstHeldBundleSpec : ChangeSpec := { name := "fnPeriodNextForIsFirstHeldBundle", fn := fun _ => fun
  | [d1, d2, d3, d4] => { results := [.lit (.bool true)], args := [d1, d2, d3, d4] }
  | _ => none }
def fnPeriodNextForIsFirstHeldBundleRow : OpenClaim := { program := "qxb6604519amods", sum := "2425b7ded46ff575e04fe310a6d28d00b00002f95565a8d2eae398733ebaabf8", func := "example.com/sortilege/sortilege/zzlaws_agreement_b1.FnPeriodNextForIsFirstHeldBundle", spec := "fnPeriodNextForIsFirstHeldBundle", plainKeys := false, make := .lifted ["publicsums"], apart := false }
def FnPeriodNextForIsFirstHeldBundleSaid : Prop := fnPeriodNextForIsFirstHeldBundleRow.holds Trym.pinned (OpenSpec.ofChange fnPeriodNextForIsFirstHeldBundleSpec)

/-- ITS FALSE NEIGHBOUR: 'it returns false'. Refute it at one input. -/
def fnPeriodNextForIsFirstHeldBundleWrong : ChangeSpec := { name := "fnPeriodNextForIsFirstHeldBundle", fn := fun _ => fun
  | [d1, d2, d3, d4] => { results := [.lit (.bool false)], args := [d1, d2, d3, d4] }
  | _ => none }
def FnPeriodNextForIsFirstHeldBundleWrongFalsely : Prop := fnPeriodNextForIsFirstHeldBundleRow.holds Trym.pinned (OpenSpec.ofChange fnPeriodNextForIsFirstHeldBundleWrong)

/-- 'zzlaws_agreement_b1.FnPeriodNextForFindsEveryHeldBundle': WHATEVER THE INPUT: true; the input reads as it did. -/
def fnPeriodNextForFindsEveryHeldBundleSpec : ChangeSpec := { name := "fnPeriodNextForFindsEveryHeldBundle", fn := fun _ => fun
  | [d1, d2] => { results := [.lit (.bool true)], args := [d1, d2] }
  | _ => none }
def fnPeriodNextForFindsEveryHeldBundleRow : OpenClaim := { program := "qxb6604519amods", sum := "2425b7ded46ff575e04fe310a6d28d00b00002f95565a8d2eae398733ebaabf8", func := "example.com/sortilege/sortilege/zzlaws_agreement_b1.FnPeriodNextForFindsEveryHeldBundle", spec := "fnPeriodNextForFindsEveryHeldBundle", plainKeys := false, make := .lifted ["publicsums"], apart := false }
def FnPeriodNextForFindsEveryHeldBundleSaid : Prop := fnPeriodNextForFindsEveryHeldBundleRow.holds Trym.pinned (OpenSpec.ofChange fnPeriodNextForFindsEveryHeldBundleSpec)

/-- ITS FALSE NEIGHBOUR: 'it returns false'. Refute it at one input. -/
def fnPeriodNextForFindsEveryHeldBundleWrong : ChangeSpec := { name := "fnPeriodNextForFindsEveryHeldBundle", fn := fun _ => fun
  | [d1, d2] => { results := [.lit (.bool false)], args := [d1, d2] }
  | _ => none }
def FnPeriodNextForFindsEveryHeldBundleWrongFalsely : Prop := fnPeriodNextForFindsEveryHeldBundleRow.holds Trym.pinned (OpenSpec.ofChange fnPeriodNextForFindsEveryHeldBundleWrong)

end Rows
end Go.Proofs.Qxb6604519aMods
