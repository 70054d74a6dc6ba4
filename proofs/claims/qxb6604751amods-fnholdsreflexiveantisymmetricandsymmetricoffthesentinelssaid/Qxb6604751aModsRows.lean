/-
  No cell of these rows narrows 'for every input' (looked for: loops, veiled, ifaces, maps, wideKeys, modest, calm, conditions, laid).
  DERIVED. THE GIVEN ROWS OF THIS SEAT. 3 by the template 'for every input the law returns true; each argument reads behind the call as it read before'; 0 by the template 'total and deterministic' (their statements: Qxb6604751aModsTotals.lean).
  GIVEN WITH THE SEED: the statements are not yours to turn. If you find one false, say at which input.
  Laid BY PROGRAM, IN A SANDBOX (cutbox-rows.mjs): the forced cells as the released guide's own fill.sh prints them over the translation b47059bb6b40e8f8… (all of the seat's roots in one cut). By AI agents, Wed Nov 11 2026. No macro, syntax, notation, axiom, sorry.
-/
import Derived.Test.Qxb6604751aModsChecked
import GoSem.Claim
import GoSem.ClaimJoined
import GoSem.ClaimMapViews
import Derived.JoinedTies
import Derived.KernelRfl
namespace Go.Proofs.Qxb6604751aMods
/- THE CELL 'sum', in the pinned program and in every row, IS THE sha256 OF THE DUMP (.gsa) THAT Qxb6604751aModsProg.lean LOADS. Nothing in Lean hashes anything: it is a label: what it is worth is what the hold of that sum in a sandbox is worth. -/
noncomputable def Trym.pinned : Pinned := { name := "qxb6604751amods", sum := "b47059bb6b40e8f8630764a8c92bca1a2e1e6de26a5bead0ecafaa54fe16dae3", checked := Trym.checked }
namespace Rows
def none {H : Type} : Left H := { results := [], args := [] }

/-- 'zzlaws_internal_ledger_b1.FnHoldsReflexiveAntisymmetricAndSymmetricOffTheSentinels': WHATEVER THE INPUT: true; the input reads as it did. -/
def fnHoldsReflexiveAntisymmetricAndSymmetricOffTheSentinelsSpec : ChangeSpec := { name := "fnHoldsReflexiveAntisymmetricAndSymmetricOffTheSentinels", fn := fun _ => fun
  | [d1, d2] => { results := [.lit (.bool true)], args := [d1, d2] }
  | _ => none }
def fnHoldsReflexiveAntisymmetricAndSymmetricOffTheSentinelsRow : OpenClaim := { program := "qxb6604751amods", sum := "b47059bb6b40e8f8630764a8c92bca1a2e1e6de26a5bead0ecafaa54fe16dae3", func := "example.com/refledger/refledger/zzlaws_internal_ledger_b1.FnHoldsReflexiveAntisymmetricAndSymmetricOffTheSentinels", spec := "fnHoldsReflexiveAntisymmetricAndSymmetricOffTheSentinels", plainKeys := false, make := .lifted ["publicsums"], apart := false }
def FnHoldsReflexiveAntisymmetricAndSymmetricOffTheSentinelsSaid : Prop := fnHoldsReflexiveAntisymmetricAndSymmetricOffTheSentinelsRow.holds Trym.pinned (OpenSpec.ofChange fnHoldsReflexiveAntisymmetricAndSymmetricOffTheSentinelsSpec)

/-- ITS FALSE NEIGHBOUR: 'it returns false'. Refute it at one input. -/
def fnHoldsReflexiveAntisymmetricAndSymmetricOffTheSentinelsWrong : ChangeSpec := { name := "fnHoldsReflexiveAntisymmetricAndSymmetricOffTheSentinels", fn := fun _ => fun
  | [d1, d2] => { results := [.lit (.bool false)], args := [d1, d2] }
  | _ => none }
def FnHoldsReflexiveAntisymmetricAndSymmetricOffTheSentinelsWrongFalsely : Prop := fnHoldsReflexiveAntisymmetricAndSymmetricOffTheSentinelsRow.holds Trym.pinned (OpenSpec.ofChange fnHoldsReflexiveAntisymmetricAndSymmetricOffTheSentinelsWrong)

/-- 'zzlaws_internal_ledger_b1.FnRestoreGivesBackEveryHeldEntryOnce': WHATEVER THE INPUT: true; the input reads as it did. -/
def fnRestoreGivesBackEveryHeldEntryOnceSpec : ChangeSpec := { name := "fnRestoreGivesBackEveryHeldEntryOnce", fn := fun _ => fun
  | [d1, d2, d3, d4, d5, d6] => { results := [.lit (.bool true)], args := [d1, d2, d3, d4, d5, d6] }
  | _ => none }
def fnRestoreGivesBackEveryHeldEntryOnceRow : OpenClaim := { program := "qxb6604751amods", sum := "b47059bb6b40e8f8630764a8c92bca1a2e1e6de26a5bead0ecafaa54fe16dae3", func := "example.com/refledger/refledger/zzlaws_internal_ledger_b1.FnRestoreGivesBackEveryHeldEntryOnce", spec := "fnRestoreGivesBackEveryHeldEntryOnce", unfollowed := true, recurses := true, plainKeys := false, make := .lifted ["publicsums"], apart := false }
def FnRestoreGivesBackEveryHeldEntryOnceSaid : Prop := fnRestoreGivesBackEveryHeldEntryOnceRow.holds Trym.pinned (OpenSpec.ofChange fnRestoreGivesBackEveryHeldEntryOnceSpec)

/-- ITS FALSE NEIGHBOUR: 'it returns false'. Refute it at one input. -/
def fnRestoreGivesBackEveryHeldEntryOnceWrong : ChangeSpec := { name := "fnRestoreGivesBackEveryHeldEntryOnce", fn := fun _ => fun
  | [d1, d2, d3, d4, d5, d6] => { results := [.lit (.bool false)], args := [d1, d2, d3, d4, d5, d6] }
  | _ => none }
def FnRestoreGivesBackEveryHeldEntryOnceWrongFalsely : Prop := fnRestoreGivesBackEveryHeldEntryOnceRow.holds Trym.pinned (OpenSpec.ofChange fnRestoreGivesBackEveryHeldEntryOnceWrong)

/-- 'zzlaws_internal_ledger_b1.FnRestoreUndoesAnyLaterStateOfTheWrittenRefs': WHATEVER THE INPUT: true; the input reads as it did. -/
def fnRestoreUndoesAnyLaterStateOfTheWrittenRefsSpec : ChangeSpec := { name := "fnRestoreUndoesAnyLaterStateOfTheWrittenRefs", fn := fun _ => fun
  | [d1, d2, d3, d4] => { results := [.lit (.bool true)], args := [d1, d2, d3, d4] }
  | _ => none }
def fnRestoreUndoesAnyLaterStateOfTheWrittenRefsRow : OpenClaim := { program := "qxb6604751amods", sum := "b47059bb6b40e8f8630764a8c92bca1a2e1e6de26a5bead0ecafaa54fe16dae3", func := "example.com/refledger/refledger/zzlaws_internal_ledger_b1.FnRestoreUndoesAnyLaterStateOfTheWrittenRefs", spec := "fnRestoreUndoesAnyLaterStateOfTheWrittenRefs", unfollowed := true, recurses := true, plainKeys := false, make := .lifted ["publicsums"], apart := false }
def FnRestoreUndoesAnyLaterStateOfTheWrittenRefsSaid : Prop := fnRestoreUndoesAnyLaterStateOfTheWrittenRefsRow.holds Trym.pinned (OpenSpec.ofChange fnRestoreUndoesAnyLaterStateOfTheWrittenRefsSpec)

/-- ITS FALSE NEIGHBOUR: 'it returns false'. Refute it at one input. -/
def fnRestoreUndoesAnyLaterStateOfTheWrittenRefsWrong : ChangeSpec := { name := "fnRestoreUndoesAnyLaterStateOfTheWrittenRefs", fn := fun _ => fun
  | [d1, d2, d3, d4] => { results := [.lit (.bool false)], args := [d1, d2, d3, d4] }
  | _ => none }
def FnRestoreUndoesAnyLaterStateOfTheWrittenRefsWrongFalsely : Prop := fnRestoreUndoesAnyLaterStateOfTheWrittenRefsRow.holds Trym.pinned (OpenSpec.ofChange fnRestoreUndoesAnyLaterStateOfTheWrittenRefsWrong)

end Rows
end Go.Proofs.Qxb6604751aMods
