/-
  No cell of these rows narrows 'for every input' (looked for: loops, veiled, ifaces, maps, wideKeys, modest, calm, conditions, laid).
  DERIVED. THE GIVEN ROWS OF THIS SEAT. 3 by the template 'for every input the law returns true; each argument reads behind the call as it read before'; 0 by the template 'total and deterministic' (their statements: Qxb6600971aTotals.lean).
  GIVEN WITH THE SEED: the statements are not yours to turn. If you find one false, say at which input.
  Laid BY PROGRAM, IN A SANDBOX (cutbox-rows.mjs): the forced cells as the released guide's own fill.sh prints them over the translation ad9af8b24cf618a6… (all of the seat's roots in one cut). By AI agents, Wed Nov 11 2026. No macro, syntax, notation, axiom, sorry.
-/
import Derived.Test.Qxb6600971aChecked
import GoSem.Claim
import GoSem.ClaimJoined
import GoSem.ClaimMapViews
import Derived.JoinedTies
import Derived.KernelRfl
namespace Go.Proofs.Qxb6600971a
/- THE CELL 'sum', in the pinned program and in every row, IS THE sha256 OF THE DUMP (.gsa) THAT Qxb6600971aProg.lean LOADS. Nothing in Lean hashes anything: it is a label: what it is worth is what the hold of that sum in a sandbox is worth. -/
noncomputable def Try.pinned : Pinned := { name := "qxb6600971a", sum := "ad9af8b24cf618a63e34814d1d4f13d70300caf7bd5df85c0f3150ed1b5991ee", checked := Try.checked }
namespace Rows
def none {H : Type} : Left H := { results := [], args := [] }

/-- 'zzlaws_internal_node_b1.FnRecordMatchesModel': WHATEVER THE INPUT: true; the input reads as it did. -/
def fnRecordMatchesModelSpec : ChangeSpec := { name := "fnRecordMatchesModel", fn := fun _ => fun
  | [d] => { results := [.lit (.bool true)], args := [d] }
  | _ => none }
def fnRecordMatchesModelRow : OpenClaim := { program := "qxb6600971a", sum := "ad9af8b24cf618a63e34814d1d4f13d70300caf7bd5df85c0f3150ed1b5991ee", func := "example.com/quorumlog/quorumlog/zzlaws_internal_node_b1.FnRecordMatchesModel", spec := "fnRecordMatchesModel", apart := false }
def FnRecordMatchesModelSaid : Prop := fnRecordMatchesModelRow.holds Try.pinned (OpenSpec.ofChange fnRecordMatchesModelSpec)

/-- ITS FALSE NEIGHBOUR: 'it returns false'. Refute it at one input. -/
def fnRecordMatchesModelWrong : ChangeSpec := { name := "fnRecordMatchesModel", fn := fun _ => fun
  | [d] => { results := [.lit (.bool false)], args := [d] }
  | _ => none }
def FnRecordMatchesModelWrongFalsely : Prop := fnRecordMatchesModelRow.holds Try.pinned (OpenSpec.ofChange fnRecordMatchesModelWrong)

/-- 'zzlaws_internal_node_b1.FnRecordReplayRefusedAndSeqIsMax': WHATEVER THE INPUT: true; the input reads as it did. -/
def fnRecordReplayRefusedAndSeqIsMaxSpec : ChangeSpec := { name := "fnRecordReplayRefusedAndSeqIsMax", fn := fun _ => fun
  | [d] => { results := [.lit (.bool true)], args := [d] }
  | _ => none }
def fnRecordReplayRefusedAndSeqIsMaxRow : OpenClaim := { program := "qxb6600971a", sum := "ad9af8b24cf618a63e34814d1d4f13d70300caf7bd5df85c0f3150ed1b5991ee", func := "example.com/quorumlog/quorumlog/zzlaws_internal_node_b1.FnRecordReplayRefusedAndSeqIsMax", spec := "fnRecordReplayRefusedAndSeqIsMax", apart := false }
def FnRecordReplayRefusedAndSeqIsMaxSaid : Prop := fnRecordReplayRefusedAndSeqIsMaxRow.holds Try.pinned (OpenSpec.ofChange fnRecordReplayRefusedAndSeqIsMaxSpec)

/-- ITS FALSE NEIGHBOUR: 'it returns false'. Refute it at one input. -/
def fnRecordReplayRefusedAndSeqIsMaxWrong : ChangeSpec := { name := "fnRecordReplayRefusedAndSeqIsMax", fn := fun _ => fun
  | [d] => { results := [.lit (.bool false)], args := [d] }
  | _ => none }
def FnRecordReplayRefusedAndSeqIsMaxWrongFalsely : Prop := fnRecordReplayRefusedAndSeqIsMaxRow.holds Try.pinned (OpenSpec.ofChange fnRecordReplayRefusedAndSeqIsMaxWrong)

/-- 'zzlaws_internal_node_b1.FnUnlinkRemovesJustThatClient': WHATEVER THE INPUT: true; the input reads as it did. -/
def fnUnlinkRemovesJustThatClientSpec : ChangeSpec := { name := "fnUnlinkRemovesJustThatClient", fn := fun _ => fun
  | [d1, d2] => { results := [.lit (.bool true)], args := [d1, d2] }
  | _ => none }
def fnUnlinkRemovesJustThatClientRow : OpenClaim := { program := "qxb6600971a", sum := "ad9af8b24cf618a63e34814d1d4f13d70300caf7bd5df85c0f3150ed1b5991ee", func := "example.com/quorumlog/quorumlog/zzlaws_internal_node_b1.FnUnlinkRemovesJustThatClient", spec := "fnUnlinkRemovesJustThatClient", apart := false }
def FnUnlinkRemovesJustThatClientSaid : Prop := fnUnlinkRemovesJustThatClientRow.holds Try.pinned (OpenSpec.ofChange fnUnlinkRemovesJustThatClientSpec)

/-- ITS FALSE NEIGHBOUR: 'it returns false'. Refute it at one input. -/
def fnUnlinkRemovesJustThatClientWrong : ChangeSpec := { name := "fnUnlinkRemovesJustThatClient", fn := fun _ => fun
  | [d1, d2] => { results := [.lit (.bool false)], args := [d1, d2] }
  | _ => none }
def FnUnlinkRemovesJustThatClientWrongFalsely : Prop := fnUnlinkRemovesJustThatClientRow.holds Try.pinned (OpenSpec.ofChange fnUnlinkRemovesJustThatClientWrong)

end Rows
end Go.Proofs.Qxb6600971a
