/-
  No cell of these rows narrows 'for every input' (looked for: loops, veiled, ifaces, maps, wideKeys, modest, calm, conditions, laid).
  DERIVED. THE GIVEN ROWS OF THIS SEAT. 5 by the template 'for every input the law returns true; each argument reads behind the call as it read before'; 0 by the template 'total and deterministic' (their statements: Qxb6600579aTotals.lean).
  GIVEN WITH THE SEED: the statements are not yours to turn. If you find one false, say at which input.
  Laid BY PROGRAM, IN A SANDBOX (cutbox-rows.mjs): the forced cells as the released guide's own fill.sh prints them over the translation 2b1f5694146fd735… (all of the seat's roots in one cut). By AI agents, Wed Nov 11 2026. No macro, syntax, notation, axiom, sorry.
-/
import Derived.Test.Qxb6600579aChecked
import GoSem.Claim
import GoSem.ClaimJoined
import GoSem.ClaimMapViews
import Derived.JoinedTies
import Derived.KernelRfl
namespace Go.Proofs.Qxb6600579a
/- THE CELL 'sum', in the pinned program and in every row, IS THE sha256 OF THE DUMP (.gsa) THAT Qxb6600579aProg.lean LOADS. Nothing in Lean hashes anything: it is a label: what it is worth is what the hold of that sum in a sandbox is worth. -/
noncomputable def Try.pinned : Pinned := { name := "qxb6600579a", sum := "2b1f5694146fd735d5487566d9c60326a7a74eb0df74580f23392b306a8a3e48", checked := Try.checked }
namespace Rows
def none {H : Type} : Left H := { results := [], args := [] }

/-- 'zzlaws_plan_b1.FnUpToFirstListedByte': WHATEVER THE INPUT: true; the input reads as it did. -/
def fnUpToFirstListedByteSpec : ChangeSpec := { name := "fnUpToFirstListedByte", fn := fun _ => fun
  | [d1, d2, d3] => { results := [.lit (.bool true)], args := [d1, d2, d3] }
  | _ => none }
def fnUpToFirstListedByteRow : OpenClaim := { program := "qxb6600579a", sum := "2b1f5694146fd735d5487566d9c60326a7a74eb0df74580f23392b306a8a3e48", func := "example.com/vestwright/vestwright/zzlaws_plan_b1.FnUpToFirstListedByte", spec := "fnUpToFirstListedByte", inPlace := ["internal/bytealg.IndexByteString", "internal/bytealg.IndexString"], named := ["internal/bytealg.MaxLen"], apart := false }
def FnUpToFirstListedByteSaid : Prop := fnUpToFirstListedByteRow.holds Try.pinned (OpenSpec.ofChange fnUpToFirstListedByteSpec)

/-- ITS FALSE NEIGHBOUR: 'it returns false'. Refute it at one input. -/
def fnUpToFirstListedByteWrong : ChangeSpec := { name := "fnUpToFirstListedByte", fn := fun _ => fun
  | [d1, d2, d3] => { results := [.lit (.bool false)], args := [d1, d2, d3] }
  | _ => none }
def FnUpToFirstListedByteWrongFalsely : Prop := fnUpToFirstListedByteRow.holds Try.pinned (OpenSpec.ofChange fnUpToFirstListedByteWrong)

/-- 'zzlaws_plan_b1.FnUpToStopIsAFixedPoint': WHATEVER THE INPUT: true; the input reads as it did. -/
def fnUpToStopIsAFixedPointSpec : ChangeSpec := { name := "fnUpToStopIsAFixedPoint", fn := fun _ => fun
  | [d1, d2, d3] => { results := [.lit (.bool true)], args := [d1, d2, d3] }
  | _ => none }
def fnUpToStopIsAFixedPointRow : OpenClaim := { program := "qxb6600579a", sum := "2b1f5694146fd735d5487566d9c60326a7a74eb0df74580f23392b306a8a3e48", func := "example.com/vestwright/vestwright/zzlaws_plan_b1.FnUpToStopIsAFixedPoint", spec := "fnUpToStopIsAFixedPoint", inPlace := ["internal/bytealg.IndexByteString", "internal/bytealg.IndexString"], named := ["internal/bytealg.MaxLen"], apart := false }
def FnUpToStopIsAFixedPointSaid : Prop := fnUpToStopIsAFixedPointRow.holds Try.pinned (OpenSpec.ofChange fnUpToStopIsAFixedPointSpec)

/-- ITS FALSE NEIGHBOUR: 'it returns false'. Refute it at one input. -/
def fnUpToStopIsAFixedPointWrong : ChangeSpec := { name := "fnUpToStopIsAFixedPoint", fn := fun _ => fun
  | [d1, d2, d3] => { results := [.lit (.bool false)], args := [d1, d2, d3] }
  | _ => none }
def FnUpToStopIsAFixedPointWrongFalsely : Prop := fnUpToStopIsAFixedPointRow.holds Try.pinned (OpenSpec.ofChange fnUpToStopIsAFixedPointWrong)

/-- 'zzlaws_plan_b1.FnStringEndMatchesScanModel': WHATEVER THE INPUT: true; the input reads as it did. -/
def fnStringEndMatchesScanModelSpec : ChangeSpec := { name := "fnStringEndMatchesScanModel", fn := fun _ => fun
  | [d1, d2] => { results := [.lit (.bool true)], args := [d1, d2] }
  | _ => none }
def fnStringEndMatchesScanModelRow : OpenClaim := { program := "qxb6600579a", sum := "2b1f5694146fd735d5487566d9c60326a7a74eb0df74580f23392b306a8a3e48", func := "example.com/vestwright/vestwright/zzlaws_plan_b1.FnStringEndMatchesScanModel", spec := "fnStringEndMatchesScanModel", inPlace := ["internal/abi.NoEscape", "internal/bytealg.MakeNoZero"], apart := false }
def FnStringEndMatchesScanModelSaid : Prop := fnStringEndMatchesScanModelRow.holds Try.pinned (OpenSpec.ofChange fnStringEndMatchesScanModelSpec)

/-- ITS FALSE NEIGHBOUR: 'it returns false'. Refute it at one input. -/
def fnStringEndMatchesScanModelWrong : ChangeSpec := { name := "fnStringEndMatchesScanModel", fn := fun _ => fun
  | [d1, d2] => { results := [.lit (.bool false)], args := [d1, d2] }
  | _ => none }
def FnStringEndMatchesScanModelWrongFalsely : Prop := fnStringEndMatchesScanModelRow.holds Try.pinned (OpenSpec.ofChange fnStringEndMatchesScanModelWrong)

/-- 'zzlaws_plan_b1.FnStringEndStaysWithinAndCutsClean': WHATEVER THE INPUT: true; the input reads as it did. -/
def fnStringEndStaysWithinAndCutsCleanSpec : ChangeSpec := { name := "fnStringEndStaysWithinAndCutsClean", fn := fun _ => fun
  | [d1, d2] => { results := [.lit (.bool true)], args := [d1, d2] }
  | _ => none }
def fnStringEndStaysWithinAndCutsCleanRow : OpenClaim := { program := "qxb6600579a", sum := "2b1f5694146fd735d5487566d9c60326a7a74eb0df74580f23392b306a8a3e48", func := "example.com/vestwright/vestwright/zzlaws_plan_b1.FnStringEndStaysWithinAndCutsClean", spec := "fnStringEndStaysWithinAndCutsClean", inPlace := ["internal/abi.NoEscape", "internal/bytealg.MakeNoZero"], apart := false }
def FnStringEndStaysWithinAndCutsCleanSaid : Prop := fnStringEndStaysWithinAndCutsCleanRow.holds Try.pinned (OpenSpec.ofChange fnStringEndStaysWithinAndCutsCleanSpec)

/-- ITS FALSE NEIGHBOUR: 'it returns false'. Refute it at one input. -/
def fnStringEndStaysWithinAndCutsCleanWrong : ChangeSpec := { name := "fnStringEndStaysWithinAndCutsClean", fn := fun _ => fun
  | [d1, d2] => { results := [.lit (.bool false)], args := [d1, d2] }
  | _ => none }
def FnStringEndStaysWithinAndCutsCleanWrongFalsely : Prop := fnStringEndStaysWithinAndCutsCleanRow.holds Try.pinned (OpenSpec.ofChange fnStringEndStaysWithinAndCutsCleanWrong)

/-- 'zzlaws_plan_b1.FnStringEndIgnoresSurroundings': WHATEVER THE INPUT: true; the input reads as it did. -/
def fnStringEndIgnoresSurroundingsSpec : ChangeSpec := { name := "fnStringEndIgnoresSurroundings", fn := fun _ => fun
  | [d1, d2, d3, d4] => { results := [.lit (.bool true)], args := [d1, d2, d3, d4] }
  | _ => none }
def fnStringEndIgnoresSurroundingsRow : OpenClaim := { program := "qxb6600579a", sum := "2b1f5694146fd735d5487566d9c60326a7a74eb0df74580f23392b306a8a3e48", func := "example.com/vestwright/vestwright/zzlaws_plan_b1.FnStringEndIgnoresSurroundings", spec := "fnStringEndIgnoresSurroundings", inPlace := ["internal/abi.NoEscape", "internal/bytealg.MakeNoZero"], apart := false }
def FnStringEndIgnoresSurroundingsSaid : Prop := fnStringEndIgnoresSurroundingsRow.holds Try.pinned (OpenSpec.ofChange fnStringEndIgnoresSurroundingsSpec)

/-- ITS FALSE NEIGHBOUR: 'it returns false'. Refute it at one input. -/
def fnStringEndIgnoresSurroundingsWrong : ChangeSpec := { name := "fnStringEndIgnoresSurroundings", fn := fun _ => fun
  | [d1, d2, d3, d4] => { results := [.lit (.bool false)], args := [d1, d2, d3, d4] }
  | _ => none }
def FnStringEndIgnoresSurroundingsWrongFalsely : Prop := fnStringEndIgnoresSurroundingsRow.holds Try.pinned (OpenSpec.ofChange fnStringEndIgnoresSurroundingsWrong)

end Rows
end Go.Proofs.Qxb6600579a
