/-
  THE WALKS (4): ZZnewLimiter, ZZallowAt.
-/
import Derived.Test.Qxb6632588aA2
namespace Go.Proofs.Qxb6632588a
open Go.RowKit

theorem build39 (n win : Int) (w : World) : (Instr.build 39 #[(0, .int .i64 n), (1, .int .i64 win)]).run Try.prog w = .ok (.agg (LC n win 0 (.slice none 0 0))) w := run_build w 39 _ _ (by kernel_rfl)
theorem build44 (w : World) : (Instr.build 44 #[]).run Try.prog w = .ok (.agg (TQ 0 0)) w := run_build w 44 _ _ (by kernel_rfl)

set_option maxHeartbeats 400000 in
theorem new_any (n win : Int) (w : World) :
    Calls Try.prog 6 #[.int .i64 n, .int .i64 win] w fun e w' => e = .returned (.pointer (some ⟨w.heap.size, 0, none⟩)) ∧ w' = w.alloc (.cells (LC n win 0 (.slice none 0 0)) 39) := by
  have hb := build39 n win
  go_enter Try.func6, Try.ntmps6
  go_wp2
  go_ret
  exact ⟨rfl, rfl⟩

theorem new_lim (n win : Int) (w : World) (f : Nat → Int) : Lim (w.alloc (.cells (LC n win 0 (.slice none 0 0)) 39)) w.heap.size none n win 0 f :=
  ⟨⟨_, heap_alloc_new _ _, Or.inl ⟨rfl, rfl, rfl⟩⟩, by simp⟩

theorem Lim.later {w w' : World} {b : Nat} {og : Option Nat} {n win : Int} {m : Nat} {f : Nat → Int} (h : Lim w b og n win m f) (hb : ∀ k, k < w.heap.size → k = b ∨ some k = og → w'.heap[k]? = w.heap[k]?) : Lim w' b og n win m f := by
  obtain ⟨⟨v, hr, hs⟩, hne⟩ := h
  exact ⟨⟨v, (hb b (Array.getElem?_eq_some_iff.1 hr).1 (Or.inl rfl)).trans hr, hs.later fun k hk ho => hb k hk (Or.inr ho)⟩, hne⟩
theorem Lim.bl {w : World} {b : Nat} {og : Option Nat} {n win : Int} {m : Nat} {f : Nat → Int} (h : Lim w b og n win m f) : b < w.heap.size := by
  obtain ⟨⟨v, hr, hs⟩, hne⟩ := h
  exact (Array.getElem?_eq_some_iff.1 hr).1
theorem Lim.gl {w : World} {b g : Nat} {n win : Int} {m : Nat} {f : Nat → Int} (h : Lim w b (some g) n win m f) : g < w.heap.size := by
  obtain ⟨⟨v, hr, hs⟩, hne⟩ := h
  rcases hs with ⟨h0, _⟩ | ⟨g', off, cap, C, hg, _, _, hr', _⟩
  · cases h0
  · cases hg; exact (Array.getElem?_eq_some_iff.1 hr').1

set_option maxHeartbeats 400000 in
theorem allowAt_any (b : Nat) (og : Option Nat) (n win : Int) (m : Nat) (f : Nat → Int) (T : Int) (w : World) (hL : Lim w b og n win m f) (hm : m ≤ 1048576) (hf : ∀ j, j < m → Ok (f j)) (hT : Ok T) :
    Calls Try.prog 7 #[.pointer (some ⟨b, 0, none⟩), .int .i64 T] w (AllowEnds b og n win m f T w) := by
  have hb := build44
  have HF := hide hf; clear hf
  obtain ⟨hT1, hT2⟩ := hT
  go_enter Try.func7, Try.ntmps7
  go_wp2_with fail
  refine (add_any 0 0 T (T % 1000000000) (T / 1000000000) _ (by omega) (by omega) (by omega) (by omega) (by omega)).mono ?_
  rintro _ w1 ⟨rfl, hb1⟩
  have hL1 := hL.later (w' := w1) fun k hk _ => hb1.block k hk
  go_wp2_with fail
  refine (allow_any b og n win m f T _ hL1 hm HF.out ⟨hT1, hT2⟩).mono ?_
  rintro e w2 ⟨k, og', hk, h1, h2, h3, h4, h5⟩
  have h3' : og' = og ∨ ∃ g', og' = some g' ∧ w.heap.size ≤ g' := by
    rcases h3 with h | ⟨g', h, h'⟩
    · exact Or.inl h
    · exact Or.inr ⟨g', h, Nat.le_trans hb1.size h'⟩
  have h4' : Two b og w w2 := ⟨h4.os.trans hb1.os, h4.tape.trans hb1.tape, h4.output.trans hb1.output, Nat.le_trans hb1.size h4.size, fun k a1 a2 a3 => (h4.block k (Nat.lt_of_lt_of_le a1 hb1.size) a2 a3).trans (hb1.block k a1)⟩
  have H1 := hide h1; have H2 := hide h2; clear h1 h2 h3 h4
  rcases h5 with ⟨rfl, hn, hl⟩ | ⟨rfl, hn, hl⟩
  · go_wp2
    go_ret
    exact ⟨k, og', hk, H1.out, H2.out, h3', h4', Or.inl ⟨rfl, hn, hl⟩⟩
  · go_wp2
    go_ret
    exact ⟨k, og', hk, H1.out, H2.out, h3', h4', Or.inr ⟨rfl, hn, hl⟩⟩

/-- The frame from a base on. -/
theorem Two.base {B b : Nat} {og : Option Nat} {w0 w w' : World} (h0 : Below B w0 w) (h : Two b og w w') (hB : B ≤ w.heap.size) (hb : B ≤ b) (hg : ∀ g, og = some g → B ≤ g) : Below B w0 w' :=
  ⟨h.os.trans h0.os, h.tape.trans h0.tape, h.output.trans h0.output, Nat.le_trans h0.size h.size, fun k hk => (h.block k (by omega) (by omega) (fun e => by have := hg k e.symm; omega)).trans (h0.block k hk)⟩

/-! ### THE PLAIN LAW: counting -/
/-- How many of the first m lie less than a window before T. -/
def cntF (f : Nat → Int) (win T : Int) : Nat → Nat
  | 0 => 0
  | m + 1 => cntF f win T m + if T - f m < win then 1 else 0
/-- The same of the kept ones. -/
def cntK (kept : Nat → Bool) (f : Nat → Int) (win T : Int) : Nat → Nat
  | 0 => 0
  | i + 1 => cntK kept f win T i + if kept i = true ∧ T - f i < win then 1 else 0

theorem cntK_le (kept : Nat → Bool) (f : Nat → Int) (win T : Int) (i : Nat) : cntK kept f win T i ≤ i := by
  induction i with
  | zero => simp [cntK]
  | succ i ih => simp only [cntK]; split <;> omega
theorem cntF_none (f : Nat → Int) (win T : Int) (k : Nat) (h : ∀ j, j < k → win ≤ T - f j) : cntF f win T k = 0 := by
  induction k with
  | zero => rfl
  | succ k ih =>
    simp only [cntF]
    have := h k (by omega)
    rw [ih (fun j hj => h j (by omega)), if_neg (by omega)]
theorem cntF_drop (f : Nat → Int) (win T : Int) (k p : Nat) (h : ∀ j, j < k → win ≤ T - f j) : cntF f win T (k + p) = cntF (fun j => f (k + j)) win T p := by
  induction p with
  | zero => exact cntF_none f win T k h
  | succ p ih =>
    show cntF f win T ((k + p) + 1) = _
    simp only [cntF]
    rw [ih]
theorem cntF_all (f : Nat → Int) (win T : Int) (p : Nat) (h : ∀ j, j < p → T - f j < win) : cntF f win T p = p := by
  induction p with
  | zero => rfl
  | succ p ih =>
    simp only [cntF]
    rw [ih (fun j hj => h j (by omega)), if_pos (h p (by omega))]
theorem cntF_congr (f g : Nat → Int) (win T : Int) (p : Nat) (h : ∀ j, j < p → f j = g j) : cntF f win T p = cntF g win T p := by
  induction p with
  | zero => rfl
  | succ p ih => simp only [cntF]; rw [ih (fun j hj => h j (by omega)), h p (by omega)]
theorem cntK_congr (kept kept' : Nat → Bool) (f : Nat → Int) (win T : Int) (i : Nat) (h : ∀ j, j < i → kept j = kept' j) : cntK kept f win T i = cntK kept' f win T i := by
  induction i with
  | zero => rfl
  | succ i ih => simp only [cntK]; rw [ih (fun j hj => h j (by omega)), h i (by omega)]

end Go.Proofs.Qxb6632588a
