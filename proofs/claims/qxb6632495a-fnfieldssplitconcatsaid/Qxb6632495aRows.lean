/-
  No cell of these rows narrows 'for every input' (looked for: loops, veiled, ifaces, maps, wideKeys, modest, calm, conditions, laid).
  DERIVED. THE GIVEN ROWS OF THIS SEAT. 2 by the template 'for every input the law returns true; each argument reads behind the call as it read before'; 0 by the template 'total and deterministic' (their statements: Qxb6632495aTotals.lean).
  GIVEN WITH THE SEED: the statements are not yours to turn. If you find one false, say at which input.
  Laid BY PROGRAM, IN A SANDBOX (cutbox-rows.mjs): the forced cells as the released guide's own fill.sh prints them over the translation 12745ddc920dea7e… (all of the seat's roots in one cut). By AI agents, Wed Nov 11 2026. No macro, syntax, notation, axiom, sorry.
-/
import Derived.Test.Qxb6632495aChecked
import GoSem.Claim
import GoSem.ClaimJoined
import GoSem.ClaimMapViews
import Derived.JoinedTies
import Derived.KernelRfl
namespace Go.Proofs.Qxb6632495a
/- THE CELL 'sum', in the pinned program and in every row, IS THE sha256 OF THE DUMP (.gsa) THAT Qxb6632495aProg.lean LOADS. Nothing in Lean hashes anything: it is a label: what it is worth is what the hold of that sum in a sandbox is worth. -/
noncomputable def Try.pinned : Pinned := { name := "qxb6632495a", sum := "12745ddc920dea7ea8939d1cbd13d4f2410b56efa9674e8fc02ad7bafd6467cf", checked := Try.checked }
namespace Rows
def none {H : Type} : Left H := { results := [], args := [] }

/-- 'zzlaws_internal_keytemplate_b1.FnFieldsSplitConcat': WHATEVER THE INPUT: true; the input reads as it did. -/
def fnFieldsSplitConcatSpec : ChangeSpec := { name := "fnFieldsSplitConcat", fn := fun _ => fun
  | [d1, d2, d3, d4] => { results := [.lit (.bool true)], args := [d1, d2, d3, d4] }
  | _ => none }
def fnFieldsSplitConcatRow : OpenClaim := { program := "qxb6632495a", sum := "12745ddc920dea7ea8939d1cbd13d4f2410b56efa9674e8fc02ad7bafd6467cf", func := "example.com/inlaid-table/inlaid-table/zzlaws_internal_keytemplate_b1.FnFieldsSplitConcat", spec := "fnFieldsSplitConcat", apart := false }
def FnFieldsSplitConcatSaid : Prop := fnFieldsSplitConcatRow.holds Try.pinned (OpenSpec.ofChange fnFieldsSplitConcatSpec)

/-- ITS FALSE NEIGHBOUR: 'it returns false'. Refute it at one input. -/
def fnFieldsSplitConcatWrong : ChangeSpec := { name := "fnFieldsSplitConcat", fn := fun _ => fun
  | [d1, d2, d3, d4] => { results := [.lit (.bool false)], args := [d1, d2, d3, d4] }
  | _ => none }
def FnFieldsSplitConcatWrongFalsely : Prop := fnFieldsSplitConcatRow.holds Try.pinned (OpenSpec.ofChange fnFieldsSplitConcatWrong)

/-- 'zzlaws_internal_keytemplate_b1.FnFieldsFreshEachCall': WHATEVER THE INPUT: true; the input reads as it did. -/
def fnFieldsFreshEachCallSpec : ChangeSpec := { name := "fnFieldsFreshEachCall", fn := fun _ => fun
  | [d1, d2, d3] => { results := [.lit (.bool true)], args := [d1, d2, d3] }
  | _ => none }
def fnFieldsFreshEachCallRow : OpenClaim := { program := "qxb6632495a", sum := "12745ddc920dea7ea8939d1cbd13d4f2410b56efa9674e8fc02ad7bafd6467cf", func := "example.com/inlaid-table/inlaid-table/zzlaws_internal_keytemplate_b1.FnFieldsFreshEachCall", spec := "fnFieldsFreshEachCall", apart := false }
def FnFieldsFreshEachCallSaid : Prop := fnFieldsFreshEachCallRow.holds Try.pinned (OpenSpec.ofChange fnFieldsFreshEachCallSpec)

/-- ITS FALSE NEIGHBOUR: 'it returns false'. Refute it at one input. -/
def fnFieldsFreshEachCallWrong : ChangeSpec := { name := "fnFieldsFreshEachCall", fn := fun _ => fun
  | [d1, d2, d3] => { results := [.lit (.bool false)], args := [d1, d2, d3] }
  | _ => none }
def FnFieldsFreshEachCallWrongFalsely : Prop := fnFieldsFreshEachCallRow.holds Try.pinned (OpenSpec.ofChange fnFieldsFreshEachCallWrong)

end Rows
end Go.Proofs.Qxb6632495a
