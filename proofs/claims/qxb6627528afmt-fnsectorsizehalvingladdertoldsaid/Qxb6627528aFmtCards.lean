/-
  DERIVED. GIVEN WITH THE SEED: THE CARDS: each row of Qxb6627528aFmtRows.lean that lists a variable, with what it lists TIED to the program's text (the seventh form; the later family's looks); each row that meets fmt, with fmt's text TOLD by the authors' own Lean function (tested against real Go, not proved from fmt's source: count such statements apart). THE CARD IS WHAT COUNTS. Prove the row's statement (the work); the ties are given (Qxb6627528aFmtTie.lean); close each card by the builder's one call (the guide's Derived/Test/ToyasCard.lean, 'card_holds'). Laid BY PROGRAM, IN A SANDBOX (cutbox-door.mjs). By AI agents, Wed Nov 11 2026. No macro, syntax, notation, axiom, sorry.
-/
import Derived.Test.Qxb6627528aFmtRows
import GoSem.ClaimSeven
namespace Go.Proofs.Qxb6627528aFmt
namespace Rows

/-- THE TOLD CARD OF 'zzlaws_internal_layout_b1.FnSectorSizeHalvingLadder'. -/
def fnSectorSizeHalvingLadderCard : Claim7 := { stood := { row := fnSectorSizeHalvingLadderRow, standIns := [], harness := (true, "a84a116fb0be22931adabc4b31158dbeb9f63b9d99341db7657a7bdb80edf39b"), looks := false }, told := true, goes := false }
def FnSectorSizeHalvingLadderToldSaid : Prop := Claim7.holds Tryf.pinned (.plain (OpenSpec.ofChange fnSectorSizeHalvingLadderSpec)) fnSectorSizeHalvingLadderCard
/-- ITS FALSE NEIGHBOUR. Refute it at one input. -/
def FnSectorSizeHalvingLadderToldWrongFalsely : Prop := Claim7.holds Tryf.pinned (.plain (OpenSpec.ofChange fnSectorSizeHalvingLadderWrong)) fnSectorSizeHalvingLadderCard
end Rows
end Go.Proofs.Qxb6627528aFmt
