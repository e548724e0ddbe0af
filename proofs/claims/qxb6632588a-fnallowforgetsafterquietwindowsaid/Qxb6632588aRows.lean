/-
  No cell of these rows narrows 'for every input' (looked for: loops, veiled, ifaces, maps, wideKeys, modest, calm, conditions, laid).
  DERIVED. THE GIVEN ROWS OF THIS SEAT. 2 by the template 'for every input the law returns true; each argument reads behind the call as it read before'; 0 by the template 'total and deterministic' (their statements: Qxb6632588aTotals.lean).
  GIVEN WITH THE SEED: the statements are not yours to turn. If you find one false, say at which input.
  Laid BY PROGRAM, IN A SANDBOX (cutbox-rows.mjs): the forced cells as the released guide's own fill.sh prints them over the translation 23751f8895fffeab… (all of the seat's roots in one cut). By AI agents, Wed Nov 11 2026. No macro, syntax, notation, axiom, sorry.
-/
import Derived.Test.Qxb6632588aChecked
import GoSem.Claim
import GoSem.ClaimJoined
import GoSem.ClaimMapViews
import Derived.JoinedTies
import Derived.KernelRfl
namespace Go.Proofs.Qxb6632588a
/- THE CELL 'sum', in the pinned program and in every row, IS THE sha256 OF THE DUMP (.gsa) THAT Qxb6632588aProg.lean LOADS. Nothing in Lean hashes anything: it is a label: what it is worth is what the hold of that sum in a sandbox is worth. -/
noncomputable def Try.pinned : Pinned := { name := "qxb6632588a", sum := "23751f8895fffeabdacece2fb872ec850bbf73a0a480849011746c1995faf5ce", checked := Try.checked }
namespace Rows
def none {H : Type} : Left H := { results := [], args := [] }

/-- 'zzlaws_pkg_ratelimit_b1.FnAllowMatchesSlidingWindowCount': WHATEVER THE INPUT: true; the input reads as it did. -/
def fnAllowMatchesSlidingWindowCountSpec : ChangeSpec := { name := "fnAllowMatchesSlidingWindowCount", fn := fun _ => fun
  | [d1, d2, d3] => { results := [.lit (.bool true)], args := [d1, d2, d3] }
  | _ => none }
def fnAllowMatchesSlidingWindowCountRow : OpenClaim := { program := "qxb6632588a", sum := "23751f8895fffeabdacece2fb872ec850bbf73a0a480849011746c1995faf5ce", func := "example.com/nonce/nonce/zzlaws_pkg_ratelimit_b1.FnAllowMatchesSlidingWindowCount", spec := "fnAllowMatchesSlidingWindowCount", inPlace := ["(*internal/sync.Mutex).Lock", "internal/race.Disable", "sync/atomic.CompareAndSwapInt32", "internal/race.Enable", "internal/race.Acquire", "(*internal/sync.Mutex).lockSlow", "internal/sync.runtime_canSpin", "internal/sync.runtime_doSpin", "internal/sync.throw", "internal/sync.runtime_nanotime", "internal/sync.runtime_SemacquireMutex", "sync/atomic.AddInt32", "(*internal/sync.Mutex).Unlock", "internal/race.ReleaseMerge", "(*internal/sync.Mutex).unlockSlow", "internal/sync.fatal", "internal/sync.runtime_Semrelease"], apart := false }
def FnAllowMatchesSlidingWindowCountSaid : Prop := fnAllowMatchesSlidingWindowCountRow.holds Try.pinned (OpenSpec.ofChange fnAllowMatchesSlidingWindowCountSpec)

/-- ITS FALSE NEIGHBOUR: 'it returns false'. Refute it at one input. -/
def fnAllowMatchesSlidingWindowCountWrong : ChangeSpec := { name := "fnAllowMatchesSlidingWindowCount", fn := fun _ => fun
  | [d1, d2, d3] => { results := [.lit (.bool false)], args := [d1, d2, d3] }
  | _ => none }
def FnAllowMatchesSlidingWindowCountWrongFalsely : Prop := fnAllowMatchesSlidingWindowCountRow.holds Try.pinned (OpenSpec.ofChange fnAllowMatchesSlidingWindowCountWrong)

/-- 'zzlaws_pkg_ratelimit_b1.FnAllowForgetsAfterQuietWindow': WHATEVER THE INPUT: true; the input reads as it did. -/
def fnAllowForgetsAfterQuietWindowSpec : ChangeSpec := { name := "fnAllowForgetsAfterQuietWindow", fn := fun _ => fun
  | [d1, d2, d3, d4, d5] => { results := [.lit (.bool true)], args := [d1, d2, d3, d4, d5] }
  | _ => none }
def fnAllowForgetsAfterQuietWindowRow : OpenClaim := { program := "qxb6632588a", sum := "23751f8895fffeabdacece2fb872ec850bbf73a0a480849011746c1995faf5ce", func := "example.com/nonce/nonce/zzlaws_pkg_ratelimit_b1.FnAllowForgetsAfterQuietWindow", spec := "fnAllowForgetsAfterQuietWindow", inPlace := ["(*internal/sync.Mutex).Lock", "internal/race.Disable", "sync/atomic.CompareAndSwapInt32", "internal/race.Enable", "internal/race.Acquire", "(*internal/sync.Mutex).lockSlow", "internal/sync.runtime_canSpin", "internal/sync.runtime_doSpin", "internal/sync.throw", "internal/sync.runtime_nanotime", "internal/sync.runtime_SemacquireMutex", "sync/atomic.AddInt32", "(*internal/sync.Mutex).Unlock", "internal/race.ReleaseMerge", "(*internal/sync.Mutex).unlockSlow", "internal/sync.fatal", "internal/sync.runtime_Semrelease"], apart := false }
def FnAllowForgetsAfterQuietWindowSaid : Prop := fnAllowForgetsAfterQuietWindowRow.holds Try.pinned (OpenSpec.ofChange fnAllowForgetsAfterQuietWindowSpec)

/-- ITS FALSE NEIGHBOUR: 'it returns false'. Refute it at one input. -/
def fnAllowForgetsAfterQuietWindowWrong : ChangeSpec := { name := "fnAllowForgetsAfterQuietWindow", fn := fun _ => fun
  | [d1, d2, d3, d4, d5] => { results := [.lit (.bool false)], args := [d1, d2, d3, d4, d5] }
  | _ => none }
def FnAllowForgetsAfterQuietWindowWrongFalsely : Prop := fnAllowForgetsAfterQuietWindowRow.holds Try.pinned (OpenSpec.ofChange fnAllowForgetsAfterQuietWindowWrong)

end Rows
end Go.Proofs.Qxb6632588a
