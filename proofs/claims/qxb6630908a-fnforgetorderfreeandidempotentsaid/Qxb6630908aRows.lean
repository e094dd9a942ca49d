/-
  No cell of these rows narrows 'for every input' (looked for: loops, veiled, ifaces, maps, wideKeys, modest, calm, conditions, laid).
  DERIVED. THE GIVEN ROWS OF THIS SEAT. 2 by the template 'for every input the law returns true; each argument reads behind the call as it read before'; 0 by the template 'total and deterministic' (their statements: Qxb6630908aTotals.lean).
  GIVEN WITH THE SEED: the statements are not yours to turn. If you find one false, say at which input.
  Laid BY PROGRAM, IN A SANDBOX (cutbox-rows.mjs): the forced cells as the released guide's own fill.sh prints them over the translation 3555e3590b2aa701… (all of the seat's roots in one cut). By AI agents, Wed Nov 11 2026. No macro, syntax, notation, axiom, sorry.
-/
import Derived.Test.Qxb6630908aChecked
import GoSem.Claim
import GoSem.ClaimJoined
import GoSem.ClaimMapViews
import Derived.JoinedTies
import Derived.KernelRfl
namespace Go.Proofs.Qxb6630908a
/- THE CELL 'sum', in the pinned program and in every row, IS THE sha256 OF THE DUMP (.gsa) THAT Qxb6630908aProg.lean LOADS. Nothing in Lean hashes anything: it is a label: what it is worth is what the hold of that sum in a sandbox is worth. -/
noncomputable def Try.pinned : Pinned := { name := "qxb6630908a", sum := "3555e3590b2aa7014870613a309f5614148275f0a57e0b7e256945366888b9ba", checked := Try.checked }
namespace Rows
def none {H : Type} : Left H := { results := [], args := [] }

/-- 'zzlaws_internal_ages_b1.FnForgetDeletesExactlyOne': WHATEVER THE INPUT: true; the input reads as it did. -/
def fnForgetDeletesExactlyOneSpec : ChangeSpec := { name := "fnForgetDeletesExactlyOne", fn := fun _ => fun
  | [d1, d2, d3] => { results := [.lit (.bool true)], args := [d1, d2, d3] }
  | _ => none }
def fnForgetDeletesExactlyOneRow : OpenClaim := { program := "qxb6630908a", sum := "3555e3590b2aa7014870613a309f5614148275f0a57e0b7e256945366888b9ba", func := "example.com/mortise/mortise/zzlaws_internal_ages_b1.FnForgetDeletesExactlyOne", spec := "fnForgetDeletesExactlyOne", inPlace := ["(*internal/sync.Mutex).Lock", "internal/race.Disable", "sync/atomic.CompareAndSwapInt32", "internal/race.Enable", "internal/race.Acquire", "(*internal/sync.Mutex).lockSlow", "internal/sync.runtime_canSpin", "internal/sync.runtime_doSpin", "internal/sync.throw", "internal/sync.runtime_nanotime", "internal/sync.runtime_SemacquireMutex", "sync/atomic.AddInt32", "(*internal/sync.Mutex).Unlock", "internal/race.ReleaseMerge", "(*internal/sync.Mutex).unlockSlow", "internal/sync.fatal", "internal/sync.runtime_Semrelease"], apart := false }
def FnForgetDeletesExactlyOneSaid : Prop := fnForgetDeletesExactlyOneRow.holds Try.pinned (OpenSpec.ofChange fnForgetDeletesExactlyOneSpec)

/-- ITS FALSE NEIGHBOUR: 'it returns false'. Refute it at one input. -/
def fnForgetDeletesExactlyOneWrong : ChangeSpec := { name := "fnForgetDeletesExactlyOne", fn := fun _ => fun
  | [d1, d2, d3] => { results := [.lit (.bool false)], args := [d1, d2, d3] }
  | _ => none }
def FnForgetDeletesExactlyOneWrongFalsely : Prop := fnForgetDeletesExactlyOneRow.holds Try.pinned (OpenSpec.ofChange fnForgetDeletesExactlyOneWrong)

/-- 'zzlaws_internal_ages_b1.FnForgetOrderFreeAndIdempotent': WHATEVER THE INPUT: true; the input reads as it did. -/
def fnForgetOrderFreeAndIdempotentSpec : ChangeSpec := { name := "fnForgetOrderFreeAndIdempotent", fn := fun _ => fun
  | [d1, d2, d3, d4] => { results := [.lit (.bool true)], args := [d1, d2, d3, d4] }
  | _ => none }
def fnForgetOrderFreeAndIdempotentRow : OpenClaim := { program := "qxb6630908a", sum := "3555e3590b2aa7014870613a309f5614148275f0a57e0b7e256945366888b9ba", func := "example.com/mortise/mortise/zzlaws_internal_ages_b1.FnForgetOrderFreeAndIdempotent", spec := "fnForgetOrderFreeAndIdempotent", inPlace := ["(*internal/sync.Mutex).Lock", "internal/race.Disable", "sync/atomic.CompareAndSwapInt32", "internal/race.Enable", "internal/race.Acquire", "(*internal/sync.Mutex).lockSlow", "internal/sync.runtime_canSpin", "internal/sync.runtime_doSpin", "internal/sync.throw", "internal/sync.runtime_nanotime", "internal/sync.runtime_SemacquireMutex", "sync/atomic.AddInt32", "(*internal/sync.Mutex).Unlock", "internal/race.ReleaseMerge", "(*internal/sync.Mutex).unlockSlow", "internal/sync.fatal", "internal/sync.runtime_Semrelease"], apart := false }
def FnForgetOrderFreeAndIdempotentSaid : Prop := fnForgetOrderFreeAndIdempotentRow.holds Try.pinned (OpenSpec.ofChange fnForgetOrderFreeAndIdempotentSpec)

/-- ITS FALSE NEIGHBOUR: 'it returns false'. Refute it at one input. -/
def fnForgetOrderFreeAndIdempotentWrong : ChangeSpec := { name := "fnForgetOrderFreeAndIdempotent", fn := fun _ => fun
  | [d1, d2, d3, d4] => { results := [.lit (.bool false)], args := [d1, d2, d3, d4] }
  | _ => none }
def FnForgetOrderFreeAndIdempotentWrongFalsely : Prop := fnForgetOrderFreeAndIdempotentRow.holds Try.pinned (OpenSpec.ofChange fnForgetOrderFreeAndIdempotentWrong)

end Rows
end Go.Proofs.Qxb6630908a
