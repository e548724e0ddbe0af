/-
  THE WALKS' BASE (2): make of a slice of strings, of a slice of fields; rows of strings.
-/
import Derived.Test.Qxb6632495aBase
namespace Go.Proofs.Qxb6632495a
open Go.RowKit

theorem info9 : (Try.prog.info? 9).map (fun i => (i.zero, i.size, i.bytes)) = some (some (.string ⟨#[]⟩), 1, 16) := by kernel_rfl
theorem info32 : (Try.prog.info? 32).map (fun i => (i.zero, i.size, i.bytes)) = some (some (.agg #[.string ⟨#[]⟩, .string ⟨#[]⟩]), 2, 32) := by kernel_rfl

/-- n empty strings. -/
def Z1 (n : Nat) : Array Value := madeCells #[.string ⟨#[]⟩] n
/-- n empty fields. -/
def Z2 (n : Nat) : Array Value := madeCells #[.string ⟨#[]⟩, .string ⟨#[]⟩] (n * 2)
theorem Z1_size (n : Nat) : (Z1 n).size = n := size_madeCells _ _
theorem Z2_size (n : Nat) : (Z2 n).size = n * 2 := size_madeCells _ _

theorem make22 (n : Nat) (hn : n ≤ 1048576) (w : World) : (Instr.makeSlice 22 (.int .i64 n) (.int .i64 n)).run Try.prog w = .ok (.slice (some ⟨w.heap.size, 0, none⟩) n n) (w.alloc (.cells (Z1 n) 9)) := by
  obtain ⟨i, hi, hz0, hz1, hz2⟩ := info_parts info9
  have := run_make (P := Try.prog) w 22 9 i _ Try.underlying22 hi hz0 .i64 .i64 n n (by omega) (by omega) (by rw [hz2]; omega) (by omega)
  rw [hz1] at this
  simpa [Z1, Value.cells] using this
theorem make26 (n : Nat) (hn : n ≤ 1048576) (w : World) : (Instr.makeSlice 26 (.int .i64 n) (.int .i64 n)).run Try.prog w = .ok (.slice (some ⟨w.heap.size, 0, none⟩) n n) (w.alloc (.cells (Z2 n) 32)) := by
  obtain ⟨i, hi, hz0, hz1, hz2⟩ := info_parts info32
  have := run_make (P := Try.prog) w 26 32 i _ Try.underlying26 hi hz0 .i64 .i64 n n (by omega) (by omega) (by rw [hz2]; omega) (by omega)
  rw [hz1] at this
  simpa [Z2, Value.cells] using this

/-- Block g holds n strings, the first k of them s 0 .. -/
def RowS (w : World) (g n k : Nat) (s : Nat → ByteArray) : Prop := ∃ C : Array Value, w.heap[g]? = some (.cells C 9 (0, 0)) ∧ C.size = n ∧ (∀ j, j < n → ∃ x, C[j]? = some (.string x)) ∧ ∀ j, j < k → C[j]? = some (.string (s j))

end Go.Proofs.Qxb6632495a
