/-
  THE PLAIN LAW (2): what one event does to a Limiter's list; two Limiters with one list answer alike.
-/
import Derived.Test.Qxb6632588aA4
namespace Go.Proofs.Qxb6632588a
open Go.RowKit

/-- One event at T: k instants are forgotten; the answer r; the new list. -/
def Next (n win : Int) (m : Nat) (f : Nat → Int) (T : Int) (k : Nat) (r : Bool) (m' : Nat) (f' : Nat → Int) : Prop :=
  k ≤ m ∧ (∀ j, j < k → win ≤ T - f j) ∧ (k < m → T - f k < win) ∧
    ((r = true ∧ ((m - k : Nat) : Int) < n ∧ m' = m - k + 1 ∧ f' = fun j => if j < m - k then f (k + j) else T) ∨ (r = false ∧ n ≤ ((m - k : Nat) : Int) ∧ m' = m - k ∧ f' = fun j => f (k + j)))

theorem AllowEnds.next {b : Nat} {og : Option Nat} {n win : Int} {m : Nat} {f : Nat → Int} {T : Int} {w : World} {e : Ending} {w' : World} (h : AllowEnds b og n win m f T w e w') :
    ∃ (k : Nat) (r : Bool) (m' : Nat) (f' : Nat → Int) (og' : Option Nat), e = .returned (.bool r) ∧ Next n win m f T k r m' f' ∧ (og' = og ∨ ∃ g', og' = some g' ∧ w.heap.size ≤ g') ∧ Two b og w w' ∧ Lim w' b og' n win m' f' := by
  obtain ⟨k, og', hk, h1, h2, h3, h4, h5⟩ := h
  rcases h5 with ⟨rfl, hn, hl⟩ | ⟨rfl, hn, hl⟩
  · exact ⟨k, true, _, _, og', rfl, ⟨hk, h1, h2, Or.inl ⟨rfl, hn, rfl, rfl⟩⟩, h3, h4, hl⟩
  · exact ⟨k, false, _, _, og', rfl, ⟨hk, h1, h2, Or.inr ⟨rfl, hn, rfl, rfl⟩⟩, h3, h4, hl⟩

theorem Next.det {n win : Int} {m : Nat} {f : Nat → Int} {T : Int} {k k2 : Nat} {r r2 : Bool} {m' m2 : Nat} {f' f2 : Nat → Int} (h : Next n win m f T k r m' f') (h2 : Next n win m f T k2 r2 m2 f2) : r = r2 ∧ m' = m2 ∧ f' = f2 := by
  obtain ⟨a1, a2, a3, a4⟩ := h
  obtain ⟨b1, b2, b3, b4⟩ := h2
  have hk : k = k2 := by
    by_cases c1 : k < k2
    · have := b2 k c1; have := a3 (by omega); omega
    · by_cases c2 : k2 < k
      · have := a2 k2 c2; have := b3 (by omega); omega
      · omega
  subst hk
  rcases a4 with ⟨rfl, p1, rfl, rfl⟩ | ⟨rfl, p1, rfl, rfl⟩ <;> rcases b4 with ⟨rfl, q1, rfl, rfl⟩ | ⟨rfl, q1, rfl, rfl⟩
  · exact ⟨rfl, rfl, rfl⟩
  · omega
  · omega
  · exact ⟨rfl, rfl, rfl⟩

theorem Next.quiet {n win : Int} {m : Nat} {f : Nat → Int} {T : Int} {k : Nat} {r : Bool} {m' : Nat} {f' : Nat → Int} (h : Next n win m f T k r m' f') (hq : ∀ j, j < m → win ≤ T - f j) : r = decide (1 ≤ n) ∧ m' = (if 1 ≤ n then 1 else 0) ∧ ∀ j, j < m' → f' j = T := by
  obtain ⟨a1, a2, a3, a4⟩ := h
  have hk : k = m := by
    by_cases c : k < m
    · have := a3 c; have := hq k c; omega
    · omega
  subst hk
  rw [Nat.sub_self] at a4
  rcases a4 with ⟨rfl, p1, rfl, rfl⟩ | ⟨rfl, p1, rfl, rfl⟩
  · have hn : 1 ≤ n := by omega
    exact ⟨by simp [hn], by simp [hn], fun j hj => by simp⟩
  · have hn : ¬ 1 ≤ n := by omega
    exact ⟨by simp [hn], by simp [hn], fun j hj => by omega⟩

theorem Next.mem {n win : Int} {m : Nat} {f : Nat → Int} {T : Int} {k : Nat} {r : Bool} {m' : Nat} {f' : Nat → Int} (h : Next n win m f T k r m' f') : m' ≤ m + 1 ∧ ∀ j, j < m' → f' j = T ∨ ∃ q, q < m ∧ f' j = f q := by
  obtain ⟨a1, a2, a3, a4⟩ := h
  rcases a4 with ⟨rfl, p1, rfl, rfl⟩ | ⟨rfl, p1, rfl, rfl⟩
  · refine ⟨by omega, fun j hj => ?_⟩
    by_cases c : j < m - k
    · exact Or.inr ⟨k + j, by omega, by simp [c]⟩
    · exact Or.inl (by simp [c])
  · exact ⟨by omega, fun j hj => Or.inr ⟨k + j, by omega, rfl⟩⟩

theorem SliceIs.congr {w : World} {og : Option Nat} {v : Value} {m : Nat} {f g : Nat → Int} (h : SliceIs w og v m f) (hfg : ∀ j, j < m → f j = g j) : SliceIs w og v m g := by
  rcases h with h | ⟨g', off, cap, C, h1, h2, h3, h4, h5, h6⟩
  · exact Or.inl h
  · exact Or.inr ⟨g', off, cap, C, h1, h2, h3, h4, h5, fun j hj => by rw [← hfg j hj]; exact h6 j hj⟩
theorem Lim.congr {w : World} {b : Nat} {og : Option Nat} {n win : Int} {m : Nat} {f g : Nat → Int} (h : Lim w b og n win m f) (hfg : ∀ j, j < m → f j = g j) : Lim w b og n win m g := by
  obtain ⟨⟨v, hr, hs⟩, hne⟩ := h
  exact ⟨⟨v, hr, hs.congr hfg⟩, hne⟩

/-- One Limiter while the script 'before' runs. -/
def One (w0 : World) (b : Nat) (n win : Int) (z : Nat → Int) (i : Nat) (wr : World) : Prop :=
  ∃ (og : Option Nat) (m : Nat) (f : Nat → Int), Lim wr b og n win m f ∧ m ≤ i ∧ (∀ j, j < m → ∃ q, q < i ∧ f j = z q) ∧ Below w0.heap.size w0 wr ∧ ∀ g, og = some g → w0.heap.size ≤ g

theorem one_step {w0 : World} {b : Nat} {n win : Int} {z : Nat → Int} {i : Nat} {wr : World} {og : Option Nat} {m : Nat} {f : Nat → Int} (hm : m ≤ i) (hin : ∀ j, j < m → ∃ q, q < i ∧ f j = z q) (hB : Below w0.heap.size w0 wr) (hog : ∀ g, og = some g → w0.heap.size ≤ g) (hb : w0.heap.size ≤ b)
    {e : Ending} {w' : World} (hE : AllowEnds b og n win m f (z i) wr e w') : (∃ r, e = .returned (.bool r)) ∧ One w0 b n win z (i + 1) w' := by
  obtain ⟨k, r, m', f', og', rfl, hN, h3, h4, hl⟩ := hE.next
  obtain ⟨hm', hme⟩ := hN.mem
  refine ⟨⟨r, rfl⟩, og', m', f', hl, by omega, fun j hj => ?_, Two.base hB h4 hB.size hb hog, fun g hg => ?_⟩
  · rcases hme j hj with e | ⟨q, hq, e⟩
    · exact ⟨i, by omega, e⟩
    · obtain ⟨q', hq', e'⟩ := hin q hq
      exact ⟨q', by omega, by rw [e, e']⟩
  · rcases h3 with e | ⟨g', e, hg'⟩
    · exact hog g (by rw [← e]; exact hg)
    · rw [e] at hg; cases hg; exact Nat.le_trans hB.size hg'

/-- Two Limiters with one list. -/
structure Pair (w0 : World) (ba bb : Nat) (n win : Int) (m : Nat) (f : Nat → Int) (oa ob : Option Nat) (wr : World) : Prop where
  la : Lim wr ba oa n win m f
  lb : Lim wr bb ob n win m f
  below : Below w0.heap.size w0 wr
  ga : ∀ g, oa = some g → w0.heap.size ≤ g ∧ g ≠ bb
  gb : ∀ g, ob = some g → w0.heap.size ≤ g ∧ g ≠ ba
  ne : ∀ g, oa = some g → ob ≠ some g
  nb : ba ≠ bb
  ba0 : w0.heap.size ≤ ba
  bb0 : w0.heap.size ≤ bb

/-- Behind the first one's call. -/
theorem pair_mid {w0 : World} {ba bb : Nat} {n win : Int} {m : Nat} {f : Nat → Int} {oa ob : Option Nat} {wr w1 : World} (h : Pair w0 ba bb n win m f oa ob wr) (h2 : Two ba oa wr w1) : Lim w1 bb ob n win m f :=
  h.lb.later fun k hk ho => h2.block k hk (by rcases ho with rfl | ho; exact fun e => h.nb e.symm; exact fun e => (h.gb k ho.symm).2 e) (by rcases ho with rfl | ho; exact fun e => (h.ga k e.symm).2 rfl; exact fun e => h.ne k e.symm ho.symm)

/-- Behind both calls. -/
theorem pair_step {w0 : World} {ba bb : Nat} {n win : Int} {m : Nat} {f : Nat → Int} {oa ob : Option Nat} {wr w1 w2 : World} (h : Pair w0 ba bb n win m f oa ob wr) {m' : Nat} {f' : Nat → Int} {oa' ob' : Option Nat} (h2 : Two ba oa wr w1)
    (ha : oa' = oa ∨ ∃ g', oa' = some g' ∧ wr.heap.size ≤ g') (hla : Lim w1 ba oa' n win m' f') (h4 : Two bb ob w1 w2) (hb : ob' = ob ∨ ∃ g', ob' = some g' ∧ w1.heap.size ≤ g') (hlb : Lim w2 bb ob' n win m' f') : Pair w0 ba bb n win m' f' oa' ob' w2 := by
  have hbl := h.lb.bl
  have hal := h.la.bl
  have hga' : ∀ g, oa' = some g → w0.heap.size ≤ g ∧ g ≠ bb := by
    intro g hg
    rcases ha with e | ⟨g', e, hg'⟩
    · exact h.ga g (by rw [← e]; exact hg)
    · rw [e] at hg; cases hg; exact ⟨Nat.le_trans h.below.size hg', by omega⟩
  have hgb' : ∀ g, ob' = some g → w0.heap.size ≤ g ∧ g ≠ ba := by
    intro g hg
    rcases hb with e | ⟨g', e, hg'⟩
    · exact h.gb g (by rw [← e]; exact hg)
    · rw [e] at hg; cases hg
      have := h2.size
      exact ⟨Nat.le_trans h.below.size (Nat.le_trans h2.size hg'), by omega⟩
  have hne1 : ∀ g, oa' = some g → ob ≠ some g := by
    intro g hg he
    rcases ha with e | ⟨g', e, hg'⟩
    · exact h.ne g (by rw [← e]; exact hg) he
    · rw [e] at hg; cases hg
      subst he
      have := h.lb.gl
      omega
  have hne' : ∀ g, oa' = some g → ob' ≠ some g := by
    intro g hg he
    rcases hb with e | ⟨g', e, hg'⟩
    · exact hne1 g hg (by rw [← e]; exact he)
    · rw [e] at he; cases he
      subst hg
      have := hla.gl
      omega
  have hb1 := Two.base h.below h2 h.below.size h.ba0 (fun g hg => (h.ga g hg).1)
  refine ⟨hla.later fun k hk ho => h4.block k hk ?_ ?_, hlb, Two.base hb1 h4 hb1.size h.bb0 (fun g hg => (h.gb g hg).1), hga', hgb', hne', h.nb, h.ba0, h.bb0⟩
  · rcases ho with rfl | ho
    · exact h.nb
    · exact (hga' k ho.symm).2
  · rcases ho with rfl | ho
    · exact fun e => (h.gb k e.symm).2 rfl
    · exact fun e => hne1 k ho.symm e.symm
/-- The event at t behind a quiet window. -/
theorem quiet_step {w0 : World} {b : Nat} {n win t : Int} {wr : World} {og : Option Nat} {m : Nat} {f : Nat → Int} (hB : Below w0.heap.size w0 wr) (hog : ∀ g, og = some g → w0.heap.size ≤ g) (hb : w0.heap.size ≤ b) (hq : ∀ j, j < m → win ≤ t - f j)
    {e : Ending} {w' : World} (hE : AllowEnds b og n win m f t wr e w') : e = .returned (.bool (decide (1 ≤ n))) ∧ ∃ oa, Lim w' b oa n win (if 1 ≤ n then 1 else 0) (fun _ => t) ∧ Below w0.heap.size w0 w' ∧ ∀ g, oa = some g → w0.heap.size ≤ g := by
  obtain ⟨k, r, m', f', og', rfl, hN, h3, h4, hl⟩ := hE.next
  obtain ⟨rfl, rfl, hf⟩ := hN.quiet hq
  refine ⟨rfl, og', hl.congr hf, Two.base hB h4 hB.size hb hog, fun g hg => ?_⟩
  rcases h3 with e | ⟨g', e, hg'⟩
  · exact hog g (by rw [← e]; exact hg)
  · rw [e] at hg; cases hg; exact Nat.le_trans hB.size hg'

/-- The fresh one beside the old one. -/
theorem pair_start {w0 wX : World} {ba : Nat} {n win t : Int} {oa : Option Nat} (hla : Lim wX ba oa n win (if 1 ≤ n then 1 else 0) (fun _ => t)) (hB : Below w0.heap.size w0 wX) (hba : w0.heap.size ≤ ba) (hoa : ∀ g, oa = some g → w0.heap.size ≤ g)
    {e : Ending} {wY : World} (hE : AllowEnds wX.heap.size none n win 0 (fun _ => 0) t (wX.alloc (.cells (LC n win 0 (.slice none 0 0)) 39)) e wY) :
    e = .returned (.bool (decide (1 ≤ n))) ∧ ∃ ob, Pair w0 ba wX.heap.size n win (if 1 ≤ n then 1 else 0) (fun _ => t) oa ob wY := by
  obtain ⟨k, r, m', f', ob, rfl, hN, h3, h4, hl⟩ := hE.next
  obtain ⟨rfl, rfl, hf⟩ := hN.quiet (fun j hj => by omega)
  have hsz : (wX.alloc (.cells (LC n win 0 (.slice none 0 0)) 39)).heap.size = wX.heap.size + 1 := by simp
  have hbl := hla.bl
  have hgl : ∀ g, oa = some g → g < wX.heap.size := fun g hg => by subst hg; exact hla.gl
  have hob : ∀ g, ob = some g → wX.heap.size + 1 ≤ g := by
    intro g hg
    rcases h3 with e | ⟨g', e, hg'⟩
    · rw [e] at hg; cases hg
    · rw [e] at hg; cases hg; rw [hsz] at hg'; exact hg'
  refine ⟨rfl, ob, ?_, hl.congr hf, ?_, fun g hg => ⟨hoa g hg, by have := hgl g hg; omega⟩, fun g hg => ⟨by have := hob g hg; have := hB.size; omega, by have := hob g hg; omega⟩, fun g hg he => by have := hgl g hg; have := hob g he; omega, by omega, hba, hB.size⟩
  · refine hla.later fun k hk _ => ?_
    rw [h4.block k (by rw [hsz]; omega) (by omega) (by simp)]
    exact Below.heap_alloc _ _ _ hk
  · refine Two.base (hB.trans ?_) h4 (by rw [hsz]; have := hB.size; omega) hB.size (fun g hg => by cases hg)
    exact Below.mono (w := wX) (by go_grown) hB.size
end Go.Proofs.Qxb6632588a
