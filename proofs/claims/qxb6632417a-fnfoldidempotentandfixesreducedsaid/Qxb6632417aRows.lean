/-
  No cell of these rows narrows 'for every input' (looked for: loops, veiled, ifaces, maps, wideKeys, modest, calm, conditions, laid).
  DERIVED. THE GIVEN ROWS OF THIS SEAT. 2 by the template 'for every input the law returns true; each argument reads behind the call as it read before'; 0 by the template 'total and deterministic' (their statements: Qxb6632417aTotals.lean).
  GIVEN WITH THE SEED: the statements are not yours to turn. If you find one false, say at which input.
  Laid BY PROGRAM, IN A SANDBOX (cutbox-rows.mjs): the forced cells as the released guide's own fill.sh prints them over the translation 22c311800dcf55e8… (all of the seat's roots in one cut). By AI agents, Wed Nov 11 2026. No macro, syntax, notation, axiom, sorry.
-/
import Derived.Test.Qxb6632417aChecked
import GoSem.Claim
import GoSem.ClaimJoined
import GoSem.ClaimMapViews
import Derived.JoinedTies
import Derived.KernelRfl
namespace Go.Proofs.Qxb6632417a
/- THE CELL 'sum', in the pinned program and in every row, IS THE sha256 OF THE DUMP (.gsa) THAT Qxb6632417aProg.lean LOADS. Nothing in Lean hashes anything: it is a label: what it is worth is what the hold of that sum in a sandbox is worth. -/
noncomputable def Try.pinned : Pinned := { name := "qxb6632417a", sum := "22c311800dcf55e8125f831ed7ab1eb8b73387d9bf50d614951b8376bde41bc6", checked := Try.checked }
namespace Rows
def none {H : Type} : Left H := { results := [], args := [] }

/-- 'zzlaws_ed448_b1.FnFoldIsCongruentAndCarried': WHATEVER THE INPUT: true; the input reads as it did. -/
def fnFoldIsCongruentAndCarriedSpec : ChangeSpec := { name := "fnFoldIsCongruentAndCarried", fn := fun _ => fun
  | [d] => { results := [.lit (.bool true)], args := [d] }
  | _ => none }
def fnFoldIsCongruentAndCarriedRow : OpenClaim := { program := "qxb6632417a", sum := "22c311800dcf55e8125f831ed7ab1eb8b73387d9bf50d614951b8376bde41bc6", func := "example.com/keyturn/keyturn/zzlaws_ed448_b1.FnFoldIsCongruentAndCarried", spec := "fnFoldIsCongruentAndCarried", apart := false }
def FnFoldIsCongruentAndCarriedSaid : Prop := fnFoldIsCongruentAndCarriedRow.holds Try.pinned (OpenSpec.ofChange fnFoldIsCongruentAndCarriedSpec)

/-- ITS FALSE NEIGHBOUR: 'it returns false'. Refute it at one input. -/
def fnFoldIsCongruentAndCarriedWrong : ChangeSpec := { name := "fnFoldIsCongruentAndCarried", fn := fun _ => fun
  | [d] => { results := [.lit (.bool false)], args := [d] }
  | _ => none }
def FnFoldIsCongruentAndCarriedWrongFalsely : Prop := fnFoldIsCongruentAndCarriedRow.holds Try.pinned (OpenSpec.ofChange fnFoldIsCongruentAndCarriedWrong)

/-- 'zzlaws_ed448_b1.FnFoldIdempotentAndFixesReduced': WHATEVER THE INPUT: true; the input reads as it did. -/
def fnFoldIdempotentAndFixesReducedSpec : ChangeSpec := { name := "fnFoldIdempotentAndFixesReduced", fn := fun _ => fun
  | [d] => { results := [.lit (.bool true)], args := [d] }
  | _ => none }
def fnFoldIdempotentAndFixesReducedRow : OpenClaim := { program := "qxb6632417a", sum := "22c311800dcf55e8125f831ed7ab1eb8b73387d9bf50d614951b8376bde41bc6", func := "example.com/keyturn/keyturn/zzlaws_ed448_b1.FnFoldIdempotentAndFixesReduced", spec := "fnFoldIdempotentAndFixesReduced", apart := false }
def FnFoldIdempotentAndFixesReducedSaid : Prop := fnFoldIdempotentAndFixesReducedRow.holds Try.pinned (OpenSpec.ofChange fnFoldIdempotentAndFixesReducedSpec)

/-- ITS FALSE NEIGHBOUR: 'it returns false'. Refute it at one input. -/
def fnFoldIdempotentAndFixesReducedWrong : ChangeSpec := { name := "fnFoldIdempotentAndFixesReduced", fn := fun _ => fun
  | [d] => { results := [.lit (.bool false)], args := [d] }
  | _ => none }
def FnFoldIdempotentAndFixesReducedWrongFalsely : Prop := fnFoldIdempotentAndFixesReducedRow.holds Try.pinned (OpenSpec.ofChange fnFoldIdempotentAndFixesReducedWrong)

end Rows
end Go.Proofs.Qxb6632417a
