/-
  No cell of these rows narrows 'for every input' (looked for: loops, veiled, ifaces, maps, wideKeys, modest, calm, conditions, laid).
  DERIVED. THE GIVEN ROWS OF THIS SEAT. 1 by the template 'for every input the law returns true; each argument reads behind the call as it read before'; 0 by the template 'total and deterministic' (their statements: Qxb6613779aModsTotals.lean).
  GIVEN WITH THE SEED: the statements are not yours to turn. If you find one false, say at which input.
  Laid BY PROGRAM, IN A SANDBOX (cutbox-rows.mjs): the forced cells as the released guide's own fill.sh prints them over the translation 2008a4f9f15d9248… (all of the seat's roots in one cut). By AI agents, Wed Nov 11 2026. No macro, syntax, notation, axiom, sorry.
-/
import Derived.Test.Qxb6613779aModsChecked
import GoSem.Claim
import GoSem.ClaimJoined
import GoSem.ClaimMapViews
import Derived.JoinedTies
import Derived.KernelRfl
namespace Go.Proofs.Qxb6613779aMods
/- THE CELL 'sum', in the pinned program and in every row, IS THE sha256 OF THE DUMP (.gsa) THAT Qxb6613779aModsProg.lean LOADS. Nothing in Lean hashes anything: it is a label: what it is worth is what the hold of that sum in a sandbox is worth. -/
noncomputable def Trym.pinned : Pinned := { name := "qxb6613779amods", sum := "2008a4f9f15d924836b2cccbd538fa93864331085738fd86588d24a657ad7a3e", checked := Trym.checked }
namespace Rows
def none {H : Type} : Left H := { results := [], args := [] }

/-- 'zzlaws_ledger_b1.FnChallengeFindsLastRecord': WHATEVER THE INPUT: true; the input reads as it did. -/
def fnChallengeFindsLastRecordSpec : ChangeSpec := { name := "fnChallengeFindsLastRecord", fn := fun _ => fun
  | [d1, d2] => { results := [.lit (.bool true)], args := [d1, d2] }
  | _ => none }
def fnChallengeFindsLastRecordRow : OpenClaim := { program := "qxb6613779amods", sum := "2008a4f9f15d924836b2cccbd538fa93864331085738fd86588d24a657ad7a3e", func := "example.com/tessera/tessera/zzlaws_ledger_b1.FnChallengeFindsLastRecord", spec := "fnChallengeFindsLastRecord", plainKeys := false, make := .lifted ["publicsums"], apart := false }
def FnChallengeFindsLastRecordSaid : Prop := fnChallengeFindsLastRecordRow.holds Trym.pinned (OpenSpec.ofChange fnChallengeFindsLastRecordSpec)

/-- ITS FALSE NEIGHBOUR: 'it returns false'. Refute it at one input. -/
def fnChallengeFindsLastRecordWrong : ChangeSpec := { name := "fnChallengeFindsLastRecord", fn := fun _ => fun
  | [d1, d2] => { results := [.lit (.bool false)], args := [d1, d2] }
  | _ => none }
def FnChallengeFindsLastRecordWrongFalsely : Prop := fnChallengeFindsLastRecordRow.holds Trym.pinned (OpenSpec.ofChange fnChallengeFindsLastRecordWrong)

end Rows
end Go.Proofs.Qxb6613779aMods
