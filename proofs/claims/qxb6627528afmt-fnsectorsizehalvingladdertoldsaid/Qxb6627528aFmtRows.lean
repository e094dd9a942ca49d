/-
  No cell of these rows narrows 'for every input' (looked for: loops, veiled, ifaces, maps, wideKeys, modest, calm, conditions, laid).
  DERIVED. THE GIVEN ROWS OF THIS SEAT. 1 by the template 'for every input the law returns true; each argument reads behind the call as it read before'; 0 by the template 'total and deterministic' (their statements: Qxb6627528aFmtTotals.lean).
  GIVEN WITH THE SEED: the statements are not yours to turn. If you find one false, say at which input.
  Laid BY PROGRAM, IN A SANDBOX (cutbox-rows.mjs): the forced cells as the released guide's own fill.sh prints them over the translation 658a3d4fd06f4383… (all of the seat's roots in one cut). By AI agents, Wed Nov 11 2026. No macro, syntax, notation, axiom, sorry.
-/
import Derived.Test.Qxb6627528aFmtChecked
import GoSem.Claim
import GoSem.ClaimJoined
import GoSem.ClaimMapViews
import Derived.JoinedTies
import Derived.KernelRfl
namespace Go.Proofs.Qxb6627528aFmt
/- THE CELL 'sum', in the pinned program and in every row, IS THE sha256 OF THE DUMP (.gsa) THAT Qxb6627528aFmtProg.lean LOADS. Nothing in Lean hashes anything: it is a label: what it is worth is what the hold of that sum in a sandbox is worth. -/
noncomputable def Tryf.pinned : Pinned := { name := "qxb6627528afmt", sum := "658a3d4fd06f4383c9bfc93d30824a37754d1314b42666f8ec7780b15a605d7a", checked := Tryf.checked }
namespace Rows
def none {H : Type} : Left H := { results := [], args := [] }

/-- 'zzlaws_internal_layout_b1.FnSectorSizeHalvingLadder': WHATEVER THE INPUT: true; the input reads as it did. -/
def fnSectorSizeHalvingLadderSpec : ChangeSpec := { name := "fnSectorSizeHalvingLadder", fn := fun _ => fun
  | [d] => { results := [.lit (.bool true)], args := [d] }
  | _ => none }
def fnSectorSizeHalvingLadderRow : OpenClaim := { program := "qxb6627528afmt", sum := "658a3d4fd06f4383c9bfc93d30824a37754d1314b42666f8ec7780b15a605d7a", func := "example.com/stonebeat/stonebeat/zzlaws_internal_layout_b1.FnSectorSizeHalvingLadder", spec := "fnSectorSizeHalvingLadder", stops := ["fmt.errorf"], inPlace := ["fmt.errorf"], apart := false }
/-- NO THEOREM (fmt's text is open here; it may be false): for the released tool's asking of the row's closed facts alone. THE STATEMENT IS 'FnSectorSizeHalvingLadderToldSaid' (Qxb6627528aFmtCards.lean). -/
def FnSectorSizeHalvingLadderFormAsk : Prop := fnSectorSizeHalvingLadderRow.holds Tryf.pinned (OpenSpec.ofChange fnSectorSizeHalvingLadderSpec)

/-- ITS FALSE NEIGHBOUR: 'it returns false'. Refute it at one input. -/
def fnSectorSizeHalvingLadderWrong : ChangeSpec := { name := "fnSectorSizeHalvingLadder", fn := fun _ => fun
  | [d] => { results := [.lit (.bool false)], args := [d] }
  | _ => none }
def FnSectorSizeHalvingLadderWrongFormAsk : Prop := fnSectorSizeHalvingLadderRow.holds Tryf.pinned (OpenSpec.ofChange fnSectorSizeHalvingLadderWrong)

end Rows
end Go.Proofs.Qxb6627528aFmt
