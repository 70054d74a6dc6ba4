/-
  No cell of these rows narrows 'for every input' (looked for: loops, veiled, ifaces, maps, wideKeys, modest, calm, conditions, laid).
  DERIVED. THE GIVEN ROWS OF THIS SEAT. 4 by the template 'for every input the law returns true; each argument reads behind the call as it read before'; 0 by the template 'total and deterministic' (their statements: Qxb6605368aModsTotals.lean).
  GIVEN WITH THE SEED: the statements are not yours to turn. If you find one false, say at which input.
  Laid BY PROGRAM, IN A SANDBOX (cutbox-rows.mjs): the forced cells as the released guide's own fill.sh prints them over the translation a7c5d5e2bdc1984a… (all of the seat's roots in one cut). By AI agents, Wed Nov 11 2026. No macro, syntax, notation, axiom, sorry.
-/
import Derived.Test.Qxb6605368aModsChecked
import GoSem.Claim
import GoSem.ClaimJoined
import GoSem.ClaimMapViews
import Derived.JoinedTies
import Derived.KernelRfl
namespace Go.Proofs.Qxb6605368aMods
/- THE CELL 'sum', in the pinned program and in every row, IS THE sha256 OF THE DUMP (.gsa) THAT Qxb6605368aModsProg.lean LOADS. Nothing in Lean hashes anything: it is a label: what it is worth is what the hold of that sum in a sandbox is worth. -/
noncomputable def Trym.pinned : Pinned := { name := "qxb6605368amods", sum := "a7c5d5e2bdc1984a0a66641f0b743991ad1dfe2e6879c16210e2d208a6566fd0", checked := Trym.checked }
namespace Rows
def none {H : Type} : Left H := { results := [], args := [] }

/-- 'zzlaws_udp_b1.FnAppendPortsExact': WHATEVER THE INPUT: true; the input reads as it did. -/
def fnAppendPortsExactSpec : ChangeSpec := { name := "fnAppendPortsExact", fn := fun _ => fun
  | [d1, d2, d3] => { results := [.lit (.bool true)], args := [d1, d2, d3] }
  | _ => none }
def fnAppendPortsExactRow : OpenClaim := { program := "qxb6605368amods", sum := "a7c5d5e2bdc1984a0a66641f0b743991ad1dfe2e6879c16210e2d208a6566fd0", func := "example.com/airquorum/airquorum/zzlaws_udp_b1.FnAppendPortsExact", spec := "fnAppendPortsExact", plainKeys := false, make := .lifted ["publicsums"], apart := false }
def FnAppendPortsExactSaid : Prop := fnAppendPortsExactRow.holds Trym.pinned (OpenSpec.ofChange fnAppendPortsExactSpec)

/-- ITS FALSE NEIGHBOUR: 'it returns false'. Refute it at one input. -/
def fnAppendPortsExactWrong : ChangeSpec := { name := "fnAppendPortsExact", fn := fun _ => fun
  | [d1, d2, d3] => { results := [.lit (.bool false)], args := [d1, d2, d3] }
  | _ => none }
def FnAppendPortsExactWrongFalsely : Prop := fnAppendPortsExactRow.holds Trym.pinned (OpenSpec.ofChange fnAppendPortsExactWrong)

/-- 'zzlaws_udp_b1.FnAppendPortsSplits': WHATEVER THE INPUT: true; the input reads as it did. -/
def fnAppendPortsSplitsSpec : ChangeSpec := { name := "fnAppendPortsSplits", fn := fun _ => fun
  | [d1, d2, d3, d4] => { results := [.lit (.bool true)], args := [d1, d2, d3, d4] }
  | _ => none }
def fnAppendPortsSplitsRow : OpenClaim := { program := "qxb6605368amods", sum := "a7c5d5e2bdc1984a0a66641f0b743991ad1dfe2e6879c16210e2d208a6566fd0", func := "example.com/airquorum/airquorum/zzlaws_udp_b1.FnAppendPortsSplits", spec := "fnAppendPortsSplits", plainKeys := false, make := .lifted ["publicsums"], apart := false }
def FnAppendPortsSplitsSaid : Prop := fnAppendPortsSplitsRow.holds Trym.pinned (OpenSpec.ofChange fnAppendPortsSplitsSpec)

/-- ITS FALSE NEIGHBOUR: 'it returns false'. Refute it at one input. -/
def fnAppendPortsSplitsWrong : ChangeSpec := { name := "fnAppendPortsSplits", fn := fun _ => fun
  | [d1, d2, d3, d4] => { results := [.lit (.bool false)], args := [d1, d2, d3, d4] }
  | _ => none }
def FnAppendPortsSplitsWrongFalsely : Prop := fnAppendPortsSplitsRow.holds Trym.pinned (OpenSpec.ofChange fnAppendPortsSplitsWrong)

/-- 'zzlaws_udp_b1.FnNewFramePathsExact': WHATEVER THE INPUT: true; the input reads as it did. -/
def fnNewFramePathsExactSpec : ChangeSpec := { name := "fnNewFramePathsExact", fn := fun _ => fun
  | [d] => { results := [.lit (.bool true)], args := [d] }
  | _ => none }
def fnNewFramePathsExactRow : OpenClaim := { program := "qxb6605368amods", sum := "a7c5d5e2bdc1984a0a66641f0b743991ad1dfe2e6879c16210e2d208a6566fd0", func := "example.com/airquorum/airquorum/zzlaws_udp_b1.FnNewFramePathsExact", spec := "fnNewFramePathsExact", plainKeys := false, make := .lifted ["publicsums"], apart := false }
def FnNewFramePathsExactSaid : Prop := fnNewFramePathsExactRow.holds Trym.pinned (OpenSpec.ofChange fnNewFramePathsExactSpec)

/-- ITS FALSE NEIGHBOUR: 'it returns false'. Refute it at one input. -/
def fnNewFramePathsExactWrong : ChangeSpec := { name := "fnNewFramePathsExact", fn := fun _ => fun
  | [d] => { results := [.lit (.bool false)], args := [d] }
  | _ => none }
def FnNewFramePathsExactWrongFalsely : Prop := fnNewFramePathsExactRow.holds Trym.pinned (OpenSpec.ofChange fnNewFramePathsExactWrong)

/-- 'zzlaws_udp_b1.FnFromMatchesDeviceGraph': WHATEVER THE INPUT: true; the input reads as it did. -/
def fnFromMatchesDeviceGraphSpec : ChangeSpec := { name := "fnFromMatchesDeviceGraph", fn := fun _ => fun
  | [d1, d2] => { results := [.lit (.bool true)], args := [d1, d2] }
  | _ => none }
def fnFromMatchesDeviceGraphRow : OpenClaim := { program := "qxb6605368amods", sum := "a7c5d5e2bdc1984a0a66641f0b743991ad1dfe2e6879c16210e2d208a6566fd0", func := "example.com/airquorum/airquorum/zzlaws_udp_b1.FnFromMatchesDeviceGraph", spec := "fnFromMatchesDeviceGraph", plainKeys := false, make := .lifted ["publicsums"], apart := false }
def FnFromMatchesDeviceGraphSaid : Prop := fnFromMatchesDeviceGraphRow.holds Trym.pinned (OpenSpec.ofChange fnFromMatchesDeviceGraphSpec)

/-- ITS FALSE NEIGHBOUR: 'it returns false'. Refute it at one input. -/
def fnFromMatchesDeviceGraphWrong : ChangeSpec := { name := "fnFromMatchesDeviceGraph", fn := fun _ => fun
  | [d1, d2] => { results := [.lit (.bool false)], args := [d1, d2] }
  | _ => none }
def FnFromMatchesDeviceGraphWrongFalsely : Prop := fnFromMatchesDeviceGraphRow.holds Trym.pinned (OpenSpec.ofChange fnFromMatchesDeviceGraphWrong)

end Rows
end Go.Proofs.Qxb6605368aMods
