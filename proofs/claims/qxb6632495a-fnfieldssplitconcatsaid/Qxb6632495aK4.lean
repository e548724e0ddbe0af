/-
  THE WALKS (4): a slice of the call's own, cut at k.
-/
import Derived.Test.Qxb6632495aK3
namespace Go.Proofs.Qxb6632495a
open Go.RowKit

theorem cutlo {B : Nat} {w : World} {a : Option Addr} {n c : Nat} {s : Nat → ByteArray} (h : OwnS B w (.slice a n c) n s) (k : Nat) (hk : k ≤ n) :
    ∃ a2 c2 A2, (∀ w', (Instr.slice 22 (.slice a n c) none (some (.int .i64 k)) none).run Try.prog w' = .ok (.slice a2 k c2) w') ∧ SL w a2 k c2 A2 s := by
  have e : Try.prog.elem 22 = 9 := by kernel_rfl
  rcases h with ⟨hv, hn⟩ | ⟨g, C, hv, _, hr, hC⟩
  · simp at hv
    obtain ⟨rfl, rfl, rfl⟩ := hv
    obtain rfl : k = 0 := by omega
    refine ⟨none, 0, fun _ => ⟨0, 0, none⟩, fun w' => ?_, slNil⟩
    rw [run_slice_h w' 22 none 0 0 Try.underlying22 .i64 _ (by simp) (by simp), e, Try.sizeOf9 w']
    simp [sliced]
  · simp at hv
    obtain ⟨rfl, rfl⟩ := hv
    refine ⟨some ⟨g, 0, none⟩, c, _, fun w' => ?_, slOwn hr (fun j hj => hC j (by omega)) hk⟩
    rw [run_slice_h w' 22 _ c c Try.underlying22 .i64 _ (by omega) (by omega), e, Try.sizeOf9 w']
    simp [sliced, add0]

theorem cuthi {B : Nat} {w : World} {a : Option Addr} {n c : Nat} {s : Nat → ByteArray} (h : OwnS B w (.slice a n c) n s) (k : Nat) (hk : k ≤ n) :
    ∃ a2 c2 A2, (∀ w', (Instr.slice 22 (.slice a n c) (some (.int .i64 k)) none none).run Try.prog w' = .ok (.slice a2 (n - k) c2) w') ∧ SL w a2 (n - k) c2 A2 (fun j => s (k + j)) := by
  have e : Try.prog.elem 22 = 9 := by kernel_rfl
  rcases h with ⟨hv, hn⟩ | ⟨g, C, hv, _, hr, hC⟩
  · simp at hv
    obtain ⟨rfl, rfl, rfl⟩ := hv
    obtain rfl : k = 0 := by omega
    refine ⟨none, 0, fun _ => ⟨0, 0, none⟩, fun w' => ?_, slNil⟩
    rw [run_slice_l w' 22 none 0 0 Try.underlying22 .i64 _ (by simp) (by simp), e, Try.sizeOf9 w']
    simp [sliced]
  · simp at hv
    obtain ⟨rfl, rfl⟩ := hv
    by_cases hkc : c = k
    · subst hkc
      refine ⟨some ⟨g, 0, none⟩, 0, fun _ => ⟨0, 0, none⟩, fun w' => ?_, by rw [Nat.sub_self]; exact slNil⟩
      rw [run_slice_l w' 22 _ c c Try.underlying22 .i64 _ (by omega) (by omega), e, Try.sizeOf9 w']
      simp [sliced]
    · refine ⟨some ⟨g, k, none⟩, c - k, fun j => (⟨g, k, none⟩ : Addr).add j, fun w' => ?_, slSome (fun j hj => ?_) (Nat.le_refl _)⟩
      · rw [run_slice_l w' 22 _ c c Try.underlying22 .i64 _ (by omega) (by omega), e, Try.sizeOf9 w']
        simp [sliced, add0, hkc]
      · rw [addk, cell_of_row w g _ C 9 (0, 0) hr]; exact hC _ (by omega)
/-- Block bt holds a Template of n fields, which lie in block g. -/
structure Tpl (p : ByteArray) (s t : Nat → ByteArray) (n bt g : Nat) (w : World) : Prop where
  var : w.heap[bt]? = some (.cells #[.string p, .slice (some ⟨g, 0, none⟩) n n] 28 (0, 0))
  fl : FL w g n s t
  lt : g < w.heap.size
theorem Tpl.later {p : ByteArray} {s t : Nat → ByteArray} {n bt g : Nat} {w w' : World} (h : Tpl p s t n bt g w) (hb : Below w.heap.size w w') : Tpl p s t n bt g w' :=
  ⟨(hb.block bt (Array.getElem?_eq_some_iff.1 h.var).1).trans h.var, h.fl.below hb h.lt, Nat.lt_of_lt_of_le h.lt hb.size⟩
/-- The Template laid into a new variable. -/
theorem Tpl.mk' {p : ByteArray} {s t : Nat → ByteArray} {n g : Nat} {w : World} (hfl : FL w g n s t) (hg : g < w.heap.size) : Tpl p s t n w.heap.size g (w.alloc (.cells #[.string p, .slice (some ⟨g, 0, none⟩) n n] 28)) :=
  ⟨heap_alloc_new _ _, hfl.below (B := w.heap.size) (by go_grown) hg, by simp; omega⟩

/-- What a store into the Template's variable wants. -/
structure Row28 (w : World) (b : Nat) : Prop where
  row : w.heap[b]? = some (.cells #[.string ⟨#[]⟩, .slice none 0 0] 28 (0, 0))
  c0 : w.cell? ⟨b, 0, none⟩ = some (.string ⟨#[]⟩)
  c1 : w.cell? ⟨b, 1, none⟩ = some (.slice none 0 0)
  f0 : w.frozen? ⟨b, 0, none⟩ = false
  f1 : w.frozen? ⟨b, 1, none⟩ = false
theorem row28_of {w w5 : World} (hb : Below (w.alloc (.cells #[.string ⟨#[]⟩, .slice none 0 0] 28)).drew.heap.size (w.alloc (.cells #[.string ⟨#[]⟩, .slice none 0 0] 28)).drew w5) : Row28 w5 w.heap.size := by
  have h : w5.heap[w.heap.size]? = some (.cells #[.string ⟨#[]⟩, .slice none 0 0] 28 (0, 0)) := (hb.block w.heap.size (by simp)).trans (heap_alloc_new w _)
  exact ⟨h, (cell_of_row _ _ _ _ _ _ h).trans rfl, (cell_of_row _ _ _ _ _ _ h).trans rfl, frozen_of_row _ _ _ _ _ h, frozen_of_row _ _ _ _ _ h⟩
/-- The Template laid into a variable that was there. -/
theorem Tpl.mkAt {p : ByteArray} {s t : Nat → ByteArray} {n g b : Nat} {w : World} (hfl : FL w g n s t) (hg : g < w.heap.size) (hr : Row28 w b) (hgb : g ≠ b) :
    Tpl p s t n b g ((w.setCell ⟨b, 0, none⟩ (.string p)).setCell ⟨b, 1, none⟩ (.slice (some ⟨g, 0, none⟩) n n)) := by
  refine ⟨?_, fun j hj => ?_, by simpa using hg⟩
  · exact heap_setCell_same _ _ _ _ _ _ (heap_setCell_same _ _ _ _ _ _ hr.row)
  · have hn : ∀ (w : World) (o o' : Nat) (v : Value), (w.setCell ⟨b, o, none⟩ v).cell? ⟨g, o', none⟩ = w.cell? ⟨g, o', none⟩ :=
      fun w o o' v => World.cell?_of_block (w := w) (Below.heap_setCell w _ v g hgb)
    rw [hn, hn, hn, hn]
    exact hfl j hj
theorem below_mkAt {w0 w : World} {b : Nat} (x y : Value) (h : Below w0.heap.size w0 w) (hb : w0.heap.size ≤ b) : Below w0.heap.size w0 ((w.setCell ⟨b, 0, none⟩ x).setCell ⟨b, 1, none⟩ y) :=
  (h.setCell hb _).setCell hb _

theorem below_alloc28 (w : World) (o : Obj) : Below w.heap.size w (w.alloc o) := by go_grown
theorem below_drew (w : World) : Below w.heap.size w w.drew := (Below.refl _ _).drew

theorem endA {p : ByteArray} {s t : Nat → ByteArray} {n g : Nat} {W w : World} (hfl : FL w g n s t) (hg : g < w.heap.size) (hb : Below W.drew.heap.size W.drew w) :
    ∃ bt1 g1, Value.pointer (some ⟨w.heap.size, 0, none⟩) = .pointer (some ⟨bt1, 0, none⟩) ∧ Tpl p s t n bt1 g1 (w.alloc (.cells #[.string p, .slice (some ⟨g, 0, none⟩) n n] 28)) ∧
      Below W.heap.size W (w.alloc (.cells #[.string p, .slice (some ⟨g, 0, none⟩) n n] 28)) :=
  ⟨_, g, rfl, Tpl.mk' hfl hg, ((below_drew W).trans hb).trans ((below_alloc28 w _).mono hb.size)⟩
theorem endB {p : ByteArray} {s t : Nat → ByteArray} {n g : Nat} {W w : World} (hfl : FL w g n s t) (hl : (W.alloc (.cells #[.string ⟨#[]⟩, .slice none 0 0] 28)).drew.heap.size ≤ g) (hg : g < w.heap.size)
    (hb : Below (W.alloc (.cells #[.string ⟨#[]⟩, .slice none 0 0] 28)).drew.heap.size (W.alloc (.cells #[.string ⟨#[]⟩, .slice none 0 0] 28)).drew w) :
    ∃ bt1 g1, Value.pointer (some ⟨W.heap.size, 0, none⟩) = .pointer (some ⟨bt1, 0, none⟩) ∧ Tpl p s t n bt1 g1 ((w.setCell ⟨W.heap.size, 0, none⟩ (.string p)).setCell ⟨W.heap.size, 1, none⟩ (.slice (some ⟨g, 0, none⟩) n n)) ∧
      Below W.heap.size W ((w.setCell ⟨W.heap.size, 0, none⟩ (.string p)).setCell ⟨W.heap.size, 1, none⟩ (.slice (some ⟨g, 0, none⟩) n n)) := by
  have h1 : W.heap.size + 1 ≤ g := by simpa using hl
  exact ⟨_, g, rfl, Tpl.mkAt hfl hg (row28_of hb) (by omega), below_mkAt _ _ (((below_alloc28 W _).drew).trans (hb.mono (by simp))) (Nat.le_refl _)⟩

end Go.Proofs.Qxb6632495a
