/-
  THE WALKS (2): how a slice of strings comes in, is copied, is cut.
-/
import Derived.Test.Qxb6632495aK1
import Derived.Laws.CopyOwn
import Derived.Deep.WholeRow
namespace Go.Proofs.Qxb6632495a
open Go.RowKit

theorem idx22 (x : Addr) (n cap k : Nat) (hk : k < n) (w : World) : (Instr.indexAt 22 (.slice (some x) n cap) (.int .i64 k)).run Try.prog w = .ok (.pointer (some (x.add k))) w := by
  rw [run_indexAt_slice w 22 x n cap .i64 k Try.underlying22, if_pos (by omega)]
  have : (sizeOf 9).run Try.prog w = .ok 1 w := Try.sizeOf9 w
  have e : Try.prog.elem 22 = 9 := by kernel_rfl
  rw [e, this]
  simp

theorem slSome {w : World} {x : Addr} {n cap : Nat} {s : Nat → ByteArray} (hc : ∀ k, k < n → w.cell? (x.add k) = some (.string (s k))) (hle : n ≤ cap) : SL w (some x) n cap (fun k => x.add k) s :=
  ⟨fun k hk w' => idx22 x n cap k hk w', hc, hle⟩
theorem slNil {w : World} {a : Option Addr} {cap : Nat} {A : Nat → Addr} {s : Nat → ByteArray} : SL w a 0 cap A s :=
  ⟨fun k hk => by omega, fun k hk => by omega, by omega⟩
theorem SL.later {w w' : World} {a : Option Addr} {n cap : Nat} {A : Nat → Addr} {s : Nat → ByteArray} (h : SL w a n cap A s) (hb : Below w.heap.size w w') : SL w' a n cap A s :=
  ⟨h.idx, fun k hk => (hb.cell (block_lt_of_cell (h.cell k hk))).trans (h.cell k hk), h.le⟩
theorem add0 (g j : Nat) : (⟨g, 0, none⟩ : Addr).add j = ⟨g, j, none⟩ := by unfold Addr.add; split <;> simp_all
theorem addk (g k j : Nat) : (⟨g, k, none⟩ : Addr).add j = ⟨g, k + j, none⟩ := by unfold Addr.add; split <;> simp_all

/-- The row of the n strings. -/
def SC (n : Nat) (s : Nat → ByteArray) : Array Value := ((List.range n).map fun j => Value.string (s j)).toArray
theorem SC_size (n : Nat) (s : Nat → ByteArray) : (SC n s).size = n := by simp [SC]
theorem SC_get (n : Nat) (s : Nat → ByteArray) (j : Nat) (hj : j < n) : (SC n s)[j]? = some (.string (s j)) := by simp [SC, hj]

theorem slOwn {w : World} {g n cap : Nat} {s : Nat → ByteArray} {C : Array Value} (hr : w.heap[g]? = some (.cells C 9 (0, 0))) (hC : ∀ j, j < n → C[j]? = some (.string (s j))) (hle : n ≤ cap) : SL w (some ⟨g, 0, none⟩) n cap (fun k => (⟨g, 0, none⟩ : Addr).add k) s :=
  slSome (fun k hk => by rw [add0, cell_of_row w g k C 9 (0, 0) hr]; exact hC k hk) hle

/-- 'copy' of a slice of strings into the row that was made last. -/
theorem cpy {ops : Array Oper} {rest : List Oper} {o : Oper} {a : Act} {w : World} {Q : Exit → Act → World → Prop} (hgd : o.guard = none) (d s : Operand)
    (ho : o.op = .call { callee := .builtin .copy, args := #[d, s], argTypes := #[22, 22] }) (n cap : Nat) (x : Addr) (f : Nat → ByteArray)
    (hd : a.eval d = .slice (some ⟨w.heap.size, 0, none⟩) n n) (hs : a.eval s = .slice (some x) n cap) (hsrc : ∀ k, k < n → w.cell? (x.add k) = some (.string (f k)))
    (h : wpList Try.prog ops Q rest (a.put o.dst (goInt n)) (w.alloc (.cells (SC n f) 9))) : wpList Try.prog ops Q (o :: rest) a (w.alloc (.cells (Z1 n) 9)) := by
  refine wpList_copy_own hgd d s 22 22 ho 9 Try.underlying22 (by kernel_rfl) w.heap.size 0 n n x n cap hd hs (Z1 n) 9 (heap_alloc_new _ _) (SC n f).toList (by simp [SC]) (fun j v hv => ?_) (by simp [SC_size, Z1_size]) (fun v hv => ?_) ?_
  · have hj : j < n := by have := (List.getElem?_eq_some_iff.1 hv).1; simpa [SC_size] using this
    have e : v = .string (f j) := by
      have := SC_get n f j hj
      rw [Array.getElem?_toList, this] at hv
      exact (Option.some.inj hv).symm
    have hc := hsrc j hj
    have hl := block_lt_of_cell hc
    rw [e, ← hc]
    exact World.cell?_alloc_lt _ _ _ hl
  · simp [SC] at hv
    obtain ⟨j, _, rfl⟩ := hv
    rfl
  · have e : ((Z1 n).toList.take 0 ++ ((SC n f).toList ++ (Z1 n).toList.drop (0 + (SC n f).toList.length))).toArray = SC n f := by
      rw [List.drop_of_length_le (by simp [SC_size, Z1_size])]
      simp
    rw [e, World.setRow_alloc_new]
    have e2 : (SC n f).toList.length = n := by simp [SC_size]
    rw [e2]
    exact h

end Go.Proofs.Qxb6632495a
