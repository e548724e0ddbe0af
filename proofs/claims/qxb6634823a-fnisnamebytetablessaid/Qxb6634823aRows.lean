/-
  No cell of these rows narrows 'for every input' (looked for: loops, veiled, ifaces, maps, wideKeys, modest, calm, conditions, laid).
  DERIVED. THE GIVEN ROWS OF THIS SEAT. 2 by the template 'for every input the law returns true; each argument reads behind the call as it read before'; 0 by the template 'total and deterministic' (their statements: Qxb6634823aTotals.lean).
  GIVEN WITH THE SEED: the statements are not yours to turn. If you find one false, say at which input.
  Laid BY PROGRAM, IN A SANDBOX (cutbox-rows.mjs): the forced cells as the released guide's own fill.sh prints them over the translation 6f76b3dec96db404… (all of the seat's roots in one cut). By AI agents, Wed Nov 11 2026. No macro, syntax, notation, axiom, sorry.
-/
import Derived.Test.Qxb6634823aChecked
import GoSem.Claim
import GoSem.ClaimJoined
import GoSem.ClaimMapViews
import Derived.JoinedTies
import Derived.KernelRfl
namespace Go.Proofs.Qxb6634823a
/- THE CELL 'sum', in the pinned program and in every row, IS THE sha256 OF THE DUMP (.gsa) THAT Qxb6634823aProg.lean LOADS. Nothing in Lean hashes anything: it is a label: what it is worth is what the hold of that sum in a sandbox is worth. -/
noncomputable def Try.pinned : Pinned := { name := "qxb6634823a", sum := "6f76b3dec96db404262b9d63519715572d4e815e2ed0e5f38dfb26bfd72fbb4b", checked := Try.checked }
namespace Rows
def none {H : Type} : Left H := { results := [], args := [] }

/-- 'zzlaws_expr_b1.FnIsNameConcatAnyCut': WHATEVER THE INPUT: true; the input reads as it did. -/
def fnIsNameConcatAnyCutSpec : ChangeSpec := { name := "fnIsNameConcatAnyCut", fn := fun _ => fun
  | [d1, d2] => { results := [.lit (.bool true)], args := [d1, d2] }
  | _ => none }
def fnIsNameConcatAnyCutRow : OpenClaim := { program := "qxb6634823a", sum := "6f76b3dec96db404262b9d63519715572d4e815e2ed0e5f38dfb26bfd72fbb4b", func := "example.com/windlass/windlass/zzlaws_expr_b1.FnIsNameConcatAnyCut", spec := "fnIsNameConcatAnyCut", apart := false }
def FnIsNameConcatAnyCutSaid : Prop := fnIsNameConcatAnyCutRow.holds Try.pinned (OpenSpec.ofChange fnIsNameConcatAnyCutSpec)

/-- ITS FALSE NEIGHBOUR: 'it returns false'. Refute it at one input. -/
def fnIsNameConcatAnyCutWrong : ChangeSpec := { name := "fnIsNameConcatAnyCut", fn := fun _ => fun
  | [d1, d2] => { results := [.lit (.bool false)], args := [d1, d2] }
  | _ => none }
def FnIsNameConcatAnyCutWrongFalsely : Prop := fnIsNameConcatAnyCutRow.holds Try.pinned (OpenSpec.ofChange fnIsNameConcatAnyCutWrong)

/-- 'zzlaws_expr_b1.FnIsNameByteTables': WHATEVER THE INPUT: true; the input reads as it did. -/
def fnIsNameByteTablesSpec : ChangeSpec := { name := "fnIsNameByteTables", fn := fun _ => fun
  | [] => { results := [.lit (.bool true)], args := [] }
  | _ => none }
def fnIsNameByteTablesRow : OpenClaim := { program := "qxb6634823a", sum := "6f76b3dec96db404262b9d63519715572d4e815e2ed0e5f38dfb26bfd72fbb4b", func := "example.com/windlass/windlass/zzlaws_expr_b1.FnIsNameByteTables", spec := "fnIsNameByteTables", apart := false }
def FnIsNameByteTablesSaid : Prop := fnIsNameByteTablesRow.holds Try.pinned (OpenSpec.ofChange fnIsNameByteTablesSpec)

/-- ITS FALSE NEIGHBOUR: 'it returns false'. Refute it at one input. -/
def fnIsNameByteTablesWrong : ChangeSpec := { name := "fnIsNameByteTables", fn := fun _ => fun
  | [] => { results := [.lit (.bool false)], args := [] }
  | _ => none }
def FnIsNameByteTablesWrongFalsely : Prop := fnIsNameByteTablesRow.holds Try.pinned (OpenSpec.ofChange fnIsNameByteTablesWrong)

end Rows
end Go.Proofs.Qxb6634823a
