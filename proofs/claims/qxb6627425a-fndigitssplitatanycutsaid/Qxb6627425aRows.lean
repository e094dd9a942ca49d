/-
  No cell of these rows narrows 'for every input' (looked for: loops, veiled, ifaces, maps, wideKeys, modest, calm, conditions, laid).
  DERIVED. THE GIVEN ROWS OF THIS SEAT. 2 by the template 'for every input the law returns true; each argument reads behind the call as it read before'; 0 by the template 'total and deterministic' (their statements: Qxb6627425aTotals.lean).
  GIVEN WITH THE SEED: the statements are not yours to turn. If you find one false, say at which input.
  Laid BY PROGRAM, IN A SANDBOX (cutbox-rows.mjs): the forced cells as the released guide's own fill.sh prints them over the translation 0f0b23e018ba77fc… (all of the seat's roots in one cut). By AI agents, Wed Nov 11 2026. No macro, syntax, notation, axiom, sorry.
-/
import Derived.Test.Qxb6627425aChecked
import GoSem.Claim
import GoSem.ClaimJoined
import GoSem.ClaimMapViews
import Derived.JoinedTies
import Derived.KernelRfl
namespace Go.Proofs.Qxb6627425a
/- THE CELL 'sum', in the pinned program and in every row, IS THE sha256 OF THE DUMP (.gsa) THAT Qxb6627425aProg.lean LOADS. Nothing in Lean hashes anything: it is a label: what it is worth is what the hold of that sum in a sandbox is worth. -/
noncomputable def Try.pinned : Pinned := { name := "qxb6627425a", sum := "0f0b23e018ba77fc7395eaacf035f6dac69f43e2f84fae751b0cc8476a027987", checked := Try.checked }
namespace Rows
def none {H : Type} : Left H := { results := [], args := [] }

/-- 'zzlaws_internal_replay_b1.FnDigitsSplitAtAnyCut': WHATEVER THE INPUT: true; the input reads as it did. -/
def fnDigitsSplitAtAnyCutSpec : ChangeSpec := { name := "fnDigitsSplitAtAnyCut", fn := fun _ => fun
  | [d1, d2, d3] => { results := [.lit (.bool true)], args := [d1, d2, d3] }
  | _ => none }
def fnDigitsSplitAtAnyCutRow : OpenClaim := { program := "qxb6627425a", sum := "0f0b23e018ba77fc7395eaacf035f6dac69f43e2f84fae751b0cc8476a027987", func := "example.com/under-quota/under-quota/zzlaws_internal_replay_b1.FnDigitsSplitAtAnyCut", spec := "fnDigitsSplitAtAnyCut", apart := false }
def FnDigitsSplitAtAnyCutSaid : Prop := fnDigitsSplitAtAnyCutRow.holds Try.pinned (OpenSpec.ofChange fnDigitsSplitAtAnyCutSpec)

/-- ITS FALSE NEIGHBOUR: 'it returns false'. Refute it at one input. -/
def fnDigitsSplitAtAnyCutWrong : ChangeSpec := { name := "fnDigitsSplitAtAnyCut", fn := fun _ => fun
  | [d1, d2, d3] => { results := [.lit (.bool false)], args := [d1, d2, d3] }
  | _ => none }
def FnDigitsSplitAtAnyCutWrongFalsely : Prop := fnDigitsSplitAtAnyCutRow.holds Try.pinned (OpenSpec.ofChange fnDigitsSplitAtAnyCutWrong)

/-- 'zzlaws_internal_replay_b1.FnDigitsOneByteAnyPlace': WHATEVER THE INPUT: true; the input reads as it did. -/
def fnDigitsOneByteAnyPlaceSpec : ChangeSpec := { name := "fnDigitsOneByteAnyPlace", fn := fun _ => fun
  | [d1, d2, d3] => { results := [.lit (.bool true)], args := [d1, d2, d3] }
  | _ => none }
def fnDigitsOneByteAnyPlaceRow : OpenClaim := { program := "qxb6627425a", sum := "0f0b23e018ba77fc7395eaacf035f6dac69f43e2f84fae751b0cc8476a027987", func := "example.com/under-quota/under-quota/zzlaws_internal_replay_b1.FnDigitsOneByteAnyPlace", spec := "fnDigitsOneByteAnyPlace", apart := false }
def FnDigitsOneByteAnyPlaceSaid : Prop := fnDigitsOneByteAnyPlaceRow.holds Try.pinned (OpenSpec.ofChange fnDigitsOneByteAnyPlaceSpec)

/-- ITS FALSE NEIGHBOUR: 'it returns false'. Refute it at one input. -/
def fnDigitsOneByteAnyPlaceWrong : ChangeSpec := { name := "fnDigitsOneByteAnyPlace", fn := fun _ => fun
  | [d1, d2, d3] => { results := [.lit (.bool false)], args := [d1, d2, d3] }
  | _ => none }
def FnDigitsOneByteAnyPlaceWrongFalsely : Prop := fnDigitsOneByteAnyPlaceRow.holds Try.pinned (OpenSpec.ofChange fnDigitsOneByteAnyPlaceWrong)

end Rows
end Go.Proofs.Qxb6627425a
