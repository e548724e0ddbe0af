/-
  THE WALKS' BASE for the seat: eight-word and sixteen-word rows, what a store does to them, the arms for whole loads and stores.
-/
import Derived.Test.Qxb6632417aRows
import Derived.WalkKit
import Derived.WalkSpells
import Derived.WalkLawsBesides
import Derived.Handy
import Derived.Test.Qxb6632417aMath
namespace Go.Proofs.Qxb6632417a
open Go.RowKit

theorem hide {p : Prop} (h : p) : Hid p := h

abbrev C8 (g : Nat → Int) : Array Value := #[.int .u64 (g 0), .int .u64 (g 1), .int .u64 (g 2), .int .u64 (g 3), .int .u64 (g 4), .int .u64 (g 5), .int .u64 (g 6), .int .u64 (g 7)]
abbrev C16 (g : Nat → Int) : Array Value := #[.int .u64 (g 0), .int .u64 (g 1), .int .u64 (g 2), .int .u64 (g 3), .int .u64 (g 4), .int .u64 (g 5), .int .u64 (g 6), .int .u64 (g 7), .int .u64 (g 8), .int .u64 (g 9), .int .u64 (g 10), .int .u64 (g 11), .int .u64 (g 12), .int .u64 (g 13), .int .u64 (g 14), .int .u64 (g 15)]

/-- Block b of w holds the eight words g. -/
def Row8 (t : TypeId) (w : World) (b : Nat) (g : Nat → Int) : Prop := w.heap[b]? = some (.cells (C8 g) t (0, 0))
/-- Block b of w holds the sixteen words g. -/
def Row16 (w : World) (b : Nat) (g : Nat → Int) : Prop := w.heap[b]? = some (.cells (C16 g) 24 (0, 0))

theorem Row8.cell {t : TypeId} {w : World} {b : Nat} {g : Nat → Int} (h : Row8 t w b g) (m : Nat) (hm : m < 8) : w.cell? ⟨b, m, none⟩ = some (.int .u64 (g m)) := by
  rw [cell_of_row w b m _ t (0, 0) h]
  exact lt8 (P := fun m => (C8 g)[m]? = some (.int .u64 (g m))) rfl rfl rfl rfl rfl rfl rfl rfl m hm
theorem Row8.frozen {t : TypeId} {w : World} {b : Nat} {g : Nat → Int} (h : Row8 t w b g) (m : Nat) : w.frozen? ⟨b, m, none⟩ = false := frozen_of_row w b m _ _ h

theorem upd8 (g : Nat → Int) (m : Nat) (hm : m < 8) (v : Int) : (C8 g).setIfInBounds m (.int .u64 v) = C8 (upd g m v) := by
  exact lt8 (P := fun m => (C8 g).setIfInBounds m (.int .u64 v) = C8 (upd g m v)) rfl rfl rfl rfl rfl rfl rfl rfl m hm

theorem Row8.set {t : TypeId} {w : World} {b : Nat} {g : Nat → Int} (h : Row8 t w b g) (m : Nat) (hm : m < 8) (v : Int) : Row8 t (w.setCell ⟨b, m, none⟩ (.int .u64 v)) b (upd g m v) := by
  have := heap_setCell_same w b m _ _ (.int .u64 v) h
  rw [upd8 g m hm v] at this
  exact this
theorem Row8.setOther {t : TypeId} {w : World} {b : Nat} {g : Nat → Int} (h : Row8 t w b g) (a : Addr) (v : Value) (hb : b ≠ a.block) : Row8 t (w.setCell a v) b g :=
  (heap_setCell_other w a b v hb).trans h
theorem Row8.drew {t : TypeId} {w : World} {b : Nat} {g : Nat → Int} (h : Row8 t w b g) : Row8 t w.drew b g := h
theorem Row8.below {t : TypeId} {w w' : World} {b B : Nat} {g : Nat → Int} (h : Row8 t w b g) (hb : Below B w w') (hB : b < B) : Row8 t w' b g :=
  (hb.block b hB).trans h
theorem Row8.row {t : TypeId} {w : World} {b : Nat} {g g' : Nat → Int} (h : Row8 t w b g) : Row8 t (w.setRow b (C8 g')) b g' := setRow_heap w b _ _ _ _ h
theorem Row8.rowOther {t : TypeId} {w : World} {b c : Nat} {g : Nat → Int} (h : Row8 t w b g) (cs : Array Value) (hb : b ≠ c) : Row8 t (w.setRow c cs) b g :=
  (setRow_other w c b cs hb).trans h
theorem Row8.lt {t : TypeId} {w : World} {b : Nat} {g : Nat → Int} (h : Row8 t w b g) : b < w.heap.size := (Array.getElem?_eq_some_iff.1 h).1

theorem Row8.congr {t : TypeId} {w : World} {b : Nat} {g g' : Nat → Int} (h : Row8 t w b g) (hg : ∀ j, j < 8 → g j = g' j) : Row8 t w b g' := by
  unfold Row8 at *
  rw [h]
  simp only [C8]
  rw [hg 0 (by omega), hg 1 (by omega), hg 2 (by omega), hg 3 (by omega), hg 4 (by omega), hg 5 (by omega), hg 6 (by omega), hg 7 (by omega)]

theorem lt16 {P : Nat → Prop} (h0 : P 0) (h1 : P 1) (h2 : P 2) (h3 : P 3) (h4 : P 4) (h5 : P 5) (h6 : P 6) (h7 : P 7) (h8 : P 8) (h9 : P 9) (h10 : P 10) (h11 : P 11) (h12 : P 12) (h13 : P 13) (h14 : P 14) (h15 : P 15) (m : Nat) (hm : m < 16) : P m := by
  by_cases h : m < 8
  · exact lt8 h0 h1 h2 h3 h4 h5 h6 h7 m h
  · obtain ⟨n, rfl⟩ : ∃ n, m = n + 8 := ⟨m - 8, by omega⟩
    exact lt8 (P := fun n => P (n + 8)) h8 h9 h10 h11 h12 h13 h14 h15 n (by omega)
theorem Row16.cell {w : World} {b : Nat} {g : Nat → Int} (h : Row16 w b g) (m : Nat) (hm : m < 16) : w.cell? ⟨b, m, none⟩ = some (.int .u64 (g m)) := by
  rw [cell_of_row w b m _ 24 (0, 0) h]
  exact lt16 (P := fun m => (C16 g)[m]? = some (.int .u64 (g m))) rfl rfl rfl rfl rfl rfl rfl rfl rfl rfl rfl rfl rfl rfl rfl rfl m hm
theorem Row16.frozen {w : World} {b : Nat} {g : Nat → Int} (h : Row16 w b g) (m : Nat) : w.frozen? ⟨b, m, none⟩ = false := frozen_of_row w b m _ _ h
theorem upd16 (g : Nat → Int) (m : Nat) (hm : m < 16) (v : Int) : (C16 g).setIfInBounds m (.int .u64 v) = C16 (upd g m v) := by
  exact lt16 (P := fun m => (C16 g).setIfInBounds m (.int .u64 v) = C16 (upd g m v)) rfl rfl rfl rfl rfl rfl rfl rfl rfl rfl rfl rfl rfl rfl rfl rfl m hm
theorem Row16.set {w : World} {b : Nat} {g : Nat → Int} (h : Row16 w b g) (m : Nat) (hm : m < 16) (v : Int) : Row16 (w.setCell ⟨b, m, none⟩ (.int .u64 v)) b (upd g m v) := by
  have := heap_setCell_same w b m _ _ (.int .u64 v) h
  rw [upd16 g m hm v] at this
  exact this
theorem Row16.row {w : World} {b : Nat} {g g' : Nat → Int} (h : Row16 w b g) : Row16 (w.setRow b (C16 g')) b g' := setRow_heap w b _ _ _ _ h
theorem Row16.rowOther {w : World} {b c : Nat} {g : Nat → Int} (h : Row16 w b g) (cs : Array Value) (hb : b ≠ c) : Row16 (w.setRow c cs) b g :=
  (setRow_other w c b cs hb).trans h
theorem Row16.setOther {w : World} {b : Nat} {g : Nat → Int} (h : Row16 w b g) (a : Addr) (v : Value) (hb : b ≠ a.block) : Row16 (w.setCell a v) b g :=
  (heap_setCell_other w a b v hb).trans h
theorem Row16.drew {w : World} {b : Nat} {g : Nat → Int} (h : Row16 w b g) : Row16 w.drew b g := h
theorem Row16.below {w w' : World} {b B : Nat} {g : Nat → Int} (h : Row16 w b g) (hb : Below B w w') (hB : b < B) : Row16 w' b g :=
  (hb.block b hB).trans h
theorem Row16.lt {w : World} {b : Nat} {g : Nat → Int} (h : Row16 w b g) : b < w.heap.size := (Array.getElem?_eq_some_iff.1 h).1

theorem below_setRow {B : Nat} {a w : World} (h : Below B a w) {g : Nat} (hg : B ≤ g) (cs : Array Value) : Below B a (w.setRow g cs) :=
  h.trans ⟨rfl, rfl, rfl, by simp [World.setRow], fun k hk => setRow_other w g k cs (by omega)⟩

theorem info25 (g : Nat → Int) : (Try.prog.info? 25).map (·.size) = some (C8 g).size := by kernel_rfl
theorem info30 (g : Nat → Int) : (Try.prog.info? 30).map (·.size) = some (C8 g).size := by kernel_rfl
theorem info24 (g : Nat → Int) : (Try.prog.info? 24).map (·.size) = some (C16 g).size := by kernel_rfl

theorem one8 (g : Nat → Int) : (C8 g).all (·.oneCell') = true := by simp [Value.oneCell']
theorem one16 (g : Nat → Int) : (C16 g).all (·.oneCell') = true := by simp [Value.oneCell']

theorem or_join (x y : Int) (hx : x % 2 = 0) (h0 : 0 ≤ x) (h1 : x < 18446744073709551616) (hy0 : 0 ≤ y) (hy1 : y < 2) : bits .or .u64 x y = x + y :=
  bits_join .u64 64 (by decide) (fun n h0 h1 => by rw [IntKind.wrap_u64]; omega) 1 x y h0 (by simpa using hx) (by simpa using h1) hy0 (by simpa using hy1) (by simp; omega)
theorem and_mask (x : Int) (h0 : 0 ≤ x) (h1 : x < 18446744073709551616) : bits .and .u64 x 72057594037927935 = x % 72057594037927936 :=
  bits_mask .u64 64 (by decide) (fun n h0 h1 => by rw [IntKind.wrap_u64]; omega) 56 (by decide) x h0 (by simpa using h1)

end Go.Proofs.Qxb6632417a
