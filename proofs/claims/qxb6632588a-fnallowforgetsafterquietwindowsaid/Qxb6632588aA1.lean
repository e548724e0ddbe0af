/-
  THE WALKS (2): the Limiter in memory.
-/
import Derived.Test.Qxb6632588aT1
namespace Go.Proofs.Qxb6632588a
open Go.RowKit

/-- The three cells of the instant T. -/
def El (C : Array Value) (o : Nat) (T : Int) : Prop := C[o]? = some (.int .u64 (T % 1000000000)) ∧ C[o + 1]? = some (.int .i64 (T / 1000000000)) ∧ C[o + 2]? = some (.pointer none)

/-- v is a slice of the m instants f 0 .. f (m-1), nil (og = none) or in the block g (og = some g). -/
def SliceIs (w : World) (og : Option Nat) (v : Value) (m : Nat) (f : Nat → Int) : Prop :=
  (og = none ∧ v = .slice none 0 0 ∧ m = 0) ∨
  ∃ (g off cap : Nat) (C : Array Value), og = some g ∧ v = .slice (some ⟨g, off, none⟩) m cap ∧ m ≤ cap ∧ w.heap[g]? = some (.cells C 44 (0, 0)) ∧ off + cap * 3 ≤ C.size ∧ ∀ j, j < m → El C (off + j * 3) (f j)

/-- The cells of a Limiter; s: the lock's state word. -/
abbrev LC (n win s : Int) (v : Value) : Array Value := #[.int .i64 n, .int .i64 win, .int .i32 s, .int .u32 0, v]

structure Lim (w : World) (b : Nat) (og : Option Nat) (n win : Int) (m : Nat) (f : Nat → Int) : Prop where
  row : ∃ v, w.heap[b]? = some (.cells (LC n win 0 v) 39 (0, 0)) ∧ SliceIs w og v m f
  ne : og ≠ some b

/-- Of what w held nothing has turned but block b and og's. -/
structure Two (b : Nat) (og : Option Nat) (w w' : World) : Prop where
  os : w'.os = w.os
  tape : w'.tape = w.tape
  output : w'.output = w.output
  size : w.heap.size ≤ w'.heap.size
  block : ∀ k, k < w.heap.size → k ≠ b → some k ≠ og → w'.heap[k]? = w.heap[k]?

theorem SliceIs.later {w w' : World} {og : Option Nat} {v : Value} {m : Nat} {f : Nat → Int} (h : SliceIs w og v m f) (hb : ∀ k, k < w.heap.size → some k = og → w'.heap[k]? = w.heap[k]?) : SliceIs w' og v m f := by
  rcases h with h | ⟨g, off, cap, C, rfl, rfl, hm, hr, hs, he⟩
  · exact Or.inl h
  · exact Or.inr ⟨g, off, cap, C, rfl, rfl, hm, (hb g (Array.getElem?_eq_some_iff.1 hr).1 rfl).trans hr, hs, he⟩
theorem SliceIs.below {w w' : World} {og : Option Nat} {v : Value} {m : Nat} {f : Nat → Int} (h : SliceIs w og v m f) (hb : Below w.heap.size w w') : SliceIs w' og v m f :=
  h.later fun k hk _ => hb.block k hk

/-- Where element k lies. -/
theorem SliceIs.at {w : World} {og : Option Nat} {v : Value} {m : Nat} {f : Nat → Int} (h : SliceIs w og v m f) (k : Nat) (hk : k < m) : ∃ g o : Nat, og = some g ∧ g < w.heap.size ∧
    (∀ w', (Instr.indexAt 37 v (.int .i64 k)).run Try.prog w' = .ok (.pointer (some ⟨g, o, none⟩)) w') ∧ w.cell? ⟨g, o, none⟩ = some (.int .u64 (f k % 1000000000)) ∧ w.cell? ⟨g, o + 1, none⟩ = some (.int .i64 (f k / 1000000000)) ∧ w.cell? ⟨g, o + 2, none⟩ = some (.pointer none) := by
  rcases h with ⟨_, _, h0⟩ | ⟨g, off, cap, C, rfl, rfl, hm, hr, hs, he⟩
  · omega
  · obtain ⟨e0, e1, e2⟩ := he k hk
    refine ⟨g, off + k * 3, rfl, (Array.getElem?_eq_some_iff.1 hr).1, fun w' => ?_, (cell_of_row _ _ _ _ _ _ hr).trans e0, (cell_of_row _ _ _ _ _ _ hr).trans e1, (cell_of_row _ _ _ _ _ _ hr).trans e2⟩
    rw [run_indexAt_slice w' 37 _ m cap .i64 k Try.underlying37, if_pos (by omega)]
    have e : Try.prog.elem 37 = 44 := by kernel_rfl
    have hz : (sizeOf 44).run Try.prog w' = .ok 3 w' := Try.sizeOf44 w'
    rw [e, hz]
    have ha : (⟨g, off, none⟩ : Addr).add (k * 3) = ⟨g, off + k * 3, none⟩ := by unfold Addr.add; split <;> simp_all
    simp [ha]

/-- The slice, its first k elements dropped. -/
theorem SliceIs.cut {w : World} {og : Option Nat} {v : Value} {m : Nat} {f : Nat → Int} (h : SliceIs w og v m f) (k : Nat) (hk : k ≤ m) :
    ∃ v' a' c', v' = .slice a' (m - k) c' ∧ (∀ w', (Instr.slice 37 v (some (.int .i64 k)) none none).run Try.prog w' = .ok v' w') ∧ SliceIs w og v' (m - k) (fun j => f (k + j)) := by
  have e : Try.prog.elem 37 = 44 := by kernel_rfl
  rcases h with ⟨rfl, rfl, rfl⟩ | ⟨g, off, cap, C, rfl, rfl, hm, hr, hs, he⟩
  · obtain rfl : k = 0 := by omega
    refine ⟨.slice none 0 0, none, 0, rfl, fun w' => ?_, Or.inl ⟨rfl, rfl, rfl⟩⟩
    rw [run_slice_l w' 37 none 0 0 Try.underlying37 .i64 _ (by simp) (by simp), e, Try.sizeOf44 w']
    simp [sliced]
  · have ha : (⟨g, off, none⟩ : Addr).add (k * 3) = ⟨g, off + k * 3, none⟩ := by unfold Addr.add; split <;> simp_all
    by_cases hkc : cap = k
    · obtain rfl : m = k := by omega
      subst hkc
      refine ⟨.slice (some ⟨g, off, none⟩) (cap - cap) 0, _, _, rfl, fun w' => ?_, Or.inr ⟨g, off, 0, C, rfl, by simp, by omega, hr, by omega, fun j hj => by omega⟩⟩
      rw [run_slice_l w' 37 _ cap cap Try.underlying37 .i64 _ (by omega) (by omega), e, Try.sizeOf44 w']
      simp [sliced]
    · refine ⟨.slice (some ⟨g, off + k * 3, none⟩) (m - k) (cap - k), _, _, rfl, fun w' => ?_, Or.inr ⟨g, off + k * 3, cap - k, C, rfl, rfl, by omega, hr, by omega, fun j hj => ?_⟩⟩
      · rw [run_slice_l w' 37 _ m cap Try.underlying37 .i64 _ (by omega) (by omega), e, Try.sizeOf44 w']
        simp [sliced, ha, hkc]
      · have := he (k + j) (by omega)
        rw [show off + k * 3 + j * 3 = off + (k + j) * 3 from by omega]
        exact this

end Go.Proofs.Qxb6632588a
