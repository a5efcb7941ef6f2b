/-
  No cell of these rows narrows 'for every input' (looked for: loops, veiled, ifaces, maps, wideKeys, modest, calm, conditions, laid).
  DERIVED. THE GIVEN ROWS OF THIS SEAT. 6 by the template 'for every input the law returns true; each argument reads behind the call as it read before'; 0 by the template 'total and deterministic' (their statements: Qxb6600630aTotals.lean).
  GIVEN WITH THE SEED: the statements are not yours to turn. If you find one false, say at which input.
  Laid BY PROGRAM, IN A SANDBOX (cutbox-rows.mjs): the forced cells as the released guide's own fill.sh prints them over the translation 0fadfad1084d937e… (all of the seat's roots in one cut). By AI agents, Wed Nov 11 2026. No macro, syntax, notation, axiom, sorry.
-/
import Derived.Test.Qxb6600630aChecked
import GoSem.Claim
import GoSem.ClaimJoined
import GoSem.ClaimMapViews
import Derived.JoinedTies
import Derived.KernelRfl
namespace Go.Proofs.Qxb6600630a
/- THE CELL 'sum', in the pinned program and in every row, IS THE sha256 OF THE DUMP (.gsa) THAT Qxb6600630aProg.lean LOADS. Nothing in Lean hashes anything: it is a label: what it is worth is what the hold of that sum in a sandbox is worth. -/
noncomputable def Try.pinned : Pinned := { name := "qxb6600630a", sum := "0fadfad1084d937e1d26ece79d81dd4921f06976f03aa3616a464b1d44a92ad6", checked := Try.checked }
namespace Rows
def none {H : Type} : Left H := { results := [], args := [] }

/-- 'zzlaws_normalize_b1.FnEscapeLenByAutomaton': WHATEVER THE INPUT: true; the input reads as it did. -/
def fnEscapeLenByAutomatonSpec : ChangeSpec := { name := "fnEscapeLenByAutomaton", fn := fun _ => fun
  | [d] => { results := [.lit (.bool true)], args := [d] }
  | _ => none }
def fnEscapeLenByAutomatonRow : OpenClaim := { program := "qxb6600630a", sum := "0fadfad1084d937e1d26ece79d81dd4921f06976f03aa3616a464b1d44a92ad6", func := "example.com/portcullis/portcullis/zzlaws_normalize_b1.FnEscapeLenByAutomaton", spec := "fnEscapeLenByAutomaton", apart := false }
def FnEscapeLenByAutomatonSaid : Prop := fnEscapeLenByAutomatonRow.holds Try.pinned (OpenSpec.ofChange fnEscapeLenByAutomatonSpec)

/-- ITS FALSE NEIGHBOUR: 'it returns false'. Refute it at one input. -/
def fnEscapeLenByAutomatonWrong : ChangeSpec := { name := "fnEscapeLenByAutomaton", fn := fun _ => fun
  | [d] => { results := [.lit (.bool false)], args := [d] }
  | _ => none }
def FnEscapeLenByAutomatonWrongFalsely : Prop := fnEscapeLenByAutomatonRow.holds Try.pinned (OpenSpec.ofChange fnEscapeLenByAutomatonWrong)

/-- 'zzlaws_normalize_b1.FnEscapeLenReadsNoFurther': WHATEVER THE INPUT: true; the input reads as it did. -/
def fnEscapeLenReadsNoFurtherSpec : ChangeSpec := { name := "fnEscapeLenReadsNoFurther", fn := fun _ => fun
  | [d1, d2] => { results := [.lit (.bool true)], args := [d1, d2] }
  | _ => none }
def fnEscapeLenReadsNoFurtherRow : OpenClaim := { program := "qxb6600630a", sum := "0fadfad1084d937e1d26ece79d81dd4921f06976f03aa3616a464b1d44a92ad6", func := "example.com/portcullis/portcullis/zzlaws_normalize_b1.FnEscapeLenReadsNoFurther", spec := "fnEscapeLenReadsNoFurther", apart := false }
def FnEscapeLenReadsNoFurtherSaid : Prop := fnEscapeLenReadsNoFurtherRow.holds Try.pinned (OpenSpec.ofChange fnEscapeLenReadsNoFurtherSpec)

/-- ITS FALSE NEIGHBOUR: 'it returns false'. Refute it at one input. -/
def fnEscapeLenReadsNoFurtherWrong : ChangeSpec := { name := "fnEscapeLenReadsNoFurther", fn := fun _ => fun
  | [d1, d2] => { results := [.lit (.bool false)], args := [d1, d2] }
  | _ => none }
def FnEscapeLenReadsNoFurtherWrongFalsely : Prop := fnEscapeLenReadsNoFurtherRow.holds Try.pinned (OpenSpec.ofChange fnEscapeLenReadsNoFurtherWrong)

/-- 'zzlaws_normalize_b1.FnOptionsStopAtFirstOperand': WHATEVER THE INPUT: true; the input reads as it did. -/
def fnOptionsStopAtFirstOperandSpec : ChangeSpec := { name := "fnOptionsStopAtFirstOperand", fn := fun _ => fun
  | [d1, d2, d3, d4, d5, d6, d7, d8, d9] => { results := [.lit (.bool true)], args := [d1, d2, d3, d4, d5, d6, d7, d8, d9] }
  | _ => none }
def fnOptionsStopAtFirstOperandRow : OpenClaim := { program := "qxb6600630a", sum := "0fadfad1084d937e1d26ece79d81dd4921f06976f03aa3616a464b1d44a92ad6", func := "example.com/portcullis/portcullis/zzlaws_normalize_b1.FnOptionsStopAtFirstOperand", spec := "fnOptionsStopAtFirstOperand", inPlace := ["internal/bytealg.IndexByteString", "internal/bytealg.IndexString"], named := ["internal/bytealg.MaxLen"], apart := false }
def FnOptionsStopAtFirstOperandSaid : Prop := fnOptionsStopAtFirstOperandRow.holds Try.pinned (OpenSpec.ofChange fnOptionsStopAtFirstOperandSpec)

/-- ITS FALSE NEIGHBOUR: 'it returns false'. Refute it at one input. -/
def fnOptionsStopAtFirstOperandWrong : ChangeSpec := { name := "fnOptionsStopAtFirstOperand", fn := fun _ => fun
  | [d1, d2, d3, d4, d5, d6, d7, d8, d9] => { results := [.lit (.bool false)], args := [d1, d2, d3, d4, d5, d6, d7, d8, d9] }
  | _ => none }
def FnOptionsStopAtFirstOperandWrongFalsely : Prop := fnOptionsStopAtFirstOperandRow.holds Try.pinned (OpenSpec.ofChange fnOptionsStopAtFirstOperandWrong)

/-- 'zzlaws_normalize_b1.FnAlikeModel': WHATEVER THE INPUT: true; the input reads as it did. -/
def fnAlikeModelSpec : ChangeSpec := { name := "fnAlikeModel", fn := fun _ => fun
  | [d1, d2, d3, d4, d5, d6, d7, d8] => { results := [.lit (.bool true)], args := [d1, d2, d3, d4, d5, d6, d7, d8] }
  | _ => none }
def fnAlikeModelRow : OpenClaim := { program := "qxb6600630a", sum := "0fadfad1084d937e1d26ece79d81dd4921f06976f03aa3616a464b1d44a92ad6", func := "example.com/portcullis/portcullis/zzlaws_normalize_b1.FnAlikeModel", spec := "fnAlikeModel", apart := false }
def FnAlikeModelSaid : Prop := fnAlikeModelRow.holds Try.pinned (OpenSpec.ofChange fnAlikeModelSpec)

/-- ITS FALSE NEIGHBOUR: 'it returns false'. Refute it at one input. -/
def fnAlikeModelWrong : ChangeSpec := { name := "fnAlikeModel", fn := fun _ => fun
  | [d1, d2, d3, d4, d5, d6, d7, d8] => { results := [.lit (.bool false)], args := [d1, d2, d3, d4, d5, d6, d7, d8] }
  | _ => none }
def FnAlikeModelWrongFalsely : Prop := fnAlikeModelRow.holds Try.pinned (OpenSpec.ofChange fnAlikeModelWrong)

/-- 'zzlaws_normalize_b1.FnAlikeEitherOrder': WHATEVER THE INPUT: true; the input reads as it did. -/
def fnAlikeEitherOrderSpec : ChangeSpec := { name := "fnAlikeEitherOrder", fn := fun _ => fun
  | [d1, d2, d3, d4, d5, d6, d7, d8, d9] => { results := [.lit (.bool true)], args := [d1, d2, d3, d4, d5, d6, d7, d8, d9] }
  | _ => none }
def fnAlikeEitherOrderRow : OpenClaim := { program := "qxb6600630a", sum := "0fadfad1084d937e1d26ece79d81dd4921f06976f03aa3616a464b1d44a92ad6", func := "example.com/portcullis/portcullis/zzlaws_normalize_b1.FnAlikeEitherOrder", spec := "fnAlikeEitherOrder", apart := false }
def FnAlikeEitherOrderSaid : Prop := fnAlikeEitherOrderRow.holds Try.pinned (OpenSpec.ofChange fnAlikeEitherOrderSpec)

/-- ITS FALSE NEIGHBOUR: 'it returns false'. Refute it at one input. -/
def fnAlikeEitherOrderWrong : ChangeSpec := { name := "fnAlikeEitherOrder", fn := fun _ => fun
  | [d1, d2, d3, d4, d5, d6, d7, d8, d9] => { results := [.lit (.bool false)], args := [d1, d2, d3, d4, d5, d6, d7, d8, d9] }
  | _ => none }
def FnAlikeEitherOrderWrongFalsely : Prop := fnAlikeEitherOrderRow.holds Try.pinned (OpenSpec.ofChange fnAlikeEitherOrderWrong)

/-- 'zzlaws_normalize_b1.FnAlikeSettles': WHATEVER THE INPUT: true; the input reads as it did. -/
def fnAlikeSettlesSpec : ChangeSpec := { name := "fnAlikeSettles", fn := fun _ => fun
  | [d1, d2, d3, d4, d5, d6, d7, d8] => { results := [.lit (.bool true)], args := [d1, d2, d3, d4, d5, d6, d7, d8] }
  | _ => none }
def fnAlikeSettlesRow : OpenClaim := { program := "qxb6600630a", sum := "0fadfad1084d937e1d26ece79d81dd4921f06976f03aa3616a464b1d44a92ad6", func := "example.com/portcullis/portcullis/zzlaws_normalize_b1.FnAlikeSettles", spec := "fnAlikeSettles", apart := false }
def FnAlikeSettlesSaid : Prop := fnAlikeSettlesRow.holds Try.pinned (OpenSpec.ofChange fnAlikeSettlesSpec)

/-- ITS FALSE NEIGHBOUR: 'it returns false'. Refute it at one input. -/
def fnAlikeSettlesWrong : ChangeSpec := { name := "fnAlikeSettles", fn := fun _ => fun
  | [d1, d2, d3, d4, d5, d6, d7, d8] => { results := [.lit (.bool false)], args := [d1, d2, d3, d4, d5, d6, d7, d8] }
  | _ => none }
def FnAlikeSettlesWrongFalsely : Prop := fnAlikeSettlesRow.holds Try.pinned (OpenSpec.ofChange fnAlikeSettlesWrong)

end Rows
end Go.Proofs.Qxb6600630a
