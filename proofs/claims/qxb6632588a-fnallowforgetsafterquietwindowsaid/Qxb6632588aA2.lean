/-
  THE WALKS (3): Allow.
-/
import Derived.Test.Qxb6632588aA3
import Derived.Test.Qxb6632588aLocks
import Derived.Conc.MuLone
import Derived.Deep.RegionHeld3
import Derived.Deep.RegionLawGrows
import Derived.Deep.DeepCutAuto
import Derived.Deep.CutBlock
import Derived.BigQuiet
import Derived.Deep.QuietTactic
namespace Go.Proofs.Qxb6632588a
open Go.RowKit Go.MuLone

/-- An instant within reach. -/
def Ok (T : Int) : Prop := -2305843009213693952 ≤ T ∧ T ≤ 2305843009213693952

/-- How Allow ends. -/
def AllowEnds (b : Nat) (og : Option Nat) (n win : Int) (m : Nat) (f : Nat → Int) (T : Int) (w : World) (e : Ending) (w' : World) : Prop :=
  ∃ (k : Nat) (og' : Option Nat), k ≤ m ∧ (∀ j, j < k → win ≤ T - f j) ∧ (k < m → T - f k < win) ∧ (og' = og ∨ ∃ g', og' = some g' ∧ w.heap.size ≤ g') ∧ Two b og w w' ∧
    ((e = .returned (.bool true) ∧ ((m - k : Nat) : Int) < n ∧ Lim w' b og' n win (m - k + 1) (fun j => if j < m - k then f (k + j) else T)) ∨
     (e = .returned (.bool false) ∧ n ≤ ((m - k : Nat) : Int) ∧ Lim w' b og' n win (m - k) (fun j => f (k + j))))

/-- While the lock is held: the Limiter, the boxed instant. -/
structure Locked (w W : World) (b : Nat) (og : Option Nat) (n win : Int) (m : Nat) (f : Nat → Int) (T : Int) (v : Value) : Prop where
  row : W.heap[b]? = some (.cells (LC n win 1 v) 39 (0, 0))
  box : W.heap[w.heap.size]? = some (.cells (TQ (T % 1000000000) (T / 1000000000)) 44 (0, 0))
  sl : SliceIs W og v m f
  two : Two b og w W
  bl : b < w.heap.size

theorem SliceIs.form {w : World} {og : Option Nat} {v : Value} {m : Nat} {f : Nat → Int} (h : SliceIs w og v m f) : ∃ a c, v = .slice a m c := by
  rcases h with ⟨_, rfl, rfl⟩ | ⟨g, off, cap, C, _, rfl, _⟩
  · exact ⟨_, _, rfl⟩
  · exact ⟨_, _, rfl⟩

theorem locked {w : World} {b : Nat} {og : Option Nat} {n win : Int} {m : Nat} {f : Nat → Int} {T : Int} {v : Value} (hrow : w.heap[b]? = some (.cells (LC n win 0 v) 39 (0, 0))) (hsl : SliceIs w og v m f) (hne : og ≠ some b) :
    Locked w ((w.setCell ⟨b, 2, none⟩ (.int .i32 1)).alloc (.cells (TQ (T % 1000000000) (T / 1000000000)) 44)) b og n win m f T v := by
  have hbl : b < w.heap.size := (Array.getElem?_eq_some_iff.1 hrow).1
  have hz : (w.setCell ⟨b, 2, none⟩ (.int .i32 1)).heap.size = w.heap.size := by simp [World.setCell]
  have hk : ∀ k, k < w.heap.size → k ≠ b → ((w.setCell ⟨b, 2, none⟩ (.int .i32 1)).alloc (.cells (TQ (T % 1000000000) (T / 1000000000)) 44)).heap[k]? = w.heap[k]? := fun k hk hkb =>
    (Below.heap_alloc _ _ _ (by omega)).trans (Below.heap_setCell _ _ _ _ hkb)
  refine ⟨?_, ?_, hsl.later fun k hk' ho => hk k hk' (fun e => hne (by rw [← ho, e])), ⟨rfl, rfl, rfl, by simp [World.setCell], fun k h1 h2 _ => hk k h1 h2⟩, hbl⟩
  · exact (Below.heap_alloc _ _ _ (by omega)).trans (heap_setCell_same _ _ _ _ _ _ hrow)
  · have := heap_alloc_new (w.setCell ⟨b, 2, none⟩ (.int .i32 1)) (.cells (TQ (T % 1000000000) (T / 1000000000)) 44)
    rwa [hz] at this

theorem Two.below {b : Nat} {og : Option Nat} {w W w' : World} (h : Two b og w W) (hb : Below W.heap.size W w') : Two b og w w' :=
  ⟨hb.os.trans h.os, hb.tape.trans h.tape, hb.output.trans h.output, Nat.le_trans h.size hb.size, fun k h1 h2 h3 => (hb.block k (Nat.lt_of_lt_of_le h1 h.size)).trans (h.block k h1 h2 h3)⟩

theorem Locked.later {w W W' : World} {b : Nat} {og : Option Nat} {n win : Int} {m : Nat} {f : Nat → Int} {T : Int} {v : Value} (h : Locked w W b og n win m f T v) (hb : Below W.heap.size W W') : Locked w W' b og n win m f T v :=
  ⟨(hb.block _ (Array.getElem?_eq_some_iff.1 h.row).1).trans h.row, (hb.block _ (Array.getElem?_eq_some_iff.1 h.box).1).trans h.box, h.sl.below hb, h.two.below hb, h.bl⟩

/-- The cells that the loop's test reads. -/
theorem Locked.cells {w W w' : World} {b : Nat} {og : Option Nat} {n win : Int} {m : Nat} {f : Nat → Int} {T : Int} {a : Option Addr} {c g o k : Nat} (h : Locked w W b og n win m f T (.slice a m c)) (hb : Below W.heap.size W w')
    (e0 : W.cell? ⟨g, o, none⟩ = some (.int .u64 (f k % 1000000000))) (e1 : W.cell? ⟨g, o + 1, none⟩ = some (.int .i64 (f k / 1000000000))) (e2 : W.cell? ⟨g, o + 2, none⟩ = some (.pointer none)) :
    w'.cell? ⟨b, 1, none⟩ = some (.int .i64 win) ∧ w'.cell? ⟨b, 4, none⟩ = some (.slice a m c) ∧ w'.cell? ⟨w.heap.size, 0, none⟩ = some (.int .u64 (T % 1000000000)) ∧ w'.cell? ⟨w.heap.size, 1, none⟩ = some (.int .i64 (T / 1000000000)) ∧ w'.cell? ⟨w.heap.size, 2, none⟩ = some (.pointer none) ∧ w'.cell? ⟨g, o, none⟩ = some (.int .u64 (f k % 1000000000)) ∧ w'.cell? ⟨g, o + 1, none⟩ = some (.int .i64 (f k / 1000000000)) ∧ w'.cell? ⟨g, o + 2, none⟩ = some (.pointer none) := by
  have h' := h.later hb
  refine ⟨(cell_of_row _ _ _ _ _ _ h'.row).trans rfl, (cell_of_row _ _ _ _ _ _ h'.row).trans rfl, (cell_of_row _ _ _ _ _ _ h'.box).trans rfl, (cell_of_row _ _ _ _ _ _ h'.box).trans rfl, (cell_of_row _ _ _ _ _ _ h'.box).trans rfl, ?_, ?_, ?_⟩
  · exact (hb.cell (block_lt_of_cell e0)).trans e0
  · exact (hb.cell (block_lt_of_cell e1)).trans e1
  · exact (hb.cell (block_lt_of_cell e2)).trans e2

/-- A new slice value is stored into the field. -/
theorem Locked.store {w W : World} {b : Nat} {og : Option Nat} {n win : Int} {m m' : Nat} {f f' : Nat → Int} {T : Int} {v v' : Value} (h : Locked w W b og n win m f T v) (hne : og ≠ some b) (hs : SliceIs W og v' m' f') :
    Locked w (W.setCell ⟨b, 4, none⟩ v') b og n win m' f' T v' := by
  have hbl := h.bl
  refine ⟨heap_setCell_same _ _ _ _ _ _ h.row, (Below.heap_setCell _ _ _ _ (by simp; omega)).trans h.box, hs.later fun k hk ho => Below.heap_setCell _ _ _ _ (fun e => hne (by rw [← ho, e])), ?_, h.bl⟩
  exact ⟨h.two.os, h.two.tape, h.two.output, Nat.le_trans h.two.size (by simp [World.setCell]), fun k h1 h2 h3 => (Below.heap_setCell _ _ _ _ h2).trans (h.two.block k h1 h2 h3)⟩

/-- The lock is let go. -/
theorem Locked.unlock {w W : World} {b : Nat} {og : Option Nat} {n win : Int} {m : Nat} {f : Nat → Int} {T : Int} {v : Value} (h : Locked w W b og n win m f T v) (hne : og ≠ some b) :
    Lim (W.setCell ⟨b, 2, none⟩ (.int .i32 0)) b og n win m f ∧ Two b og w (W.setCell ⟨b, 2, none⟩ (.int .i32 0)) := by
  refine ⟨⟨⟨v, heap_setCell_same _ _ _ _ _ _ h.row, h.sl.later fun k hk ho => Below.heap_setCell _ _ _ _ (fun e => hne (by rw [← ho, e]))⟩, hne⟩, ?_⟩
  exact ⟨h.two.os, h.two.tape, h.two.output, Nat.le_trans h.two.size (by simp [World.setCell]), fun k h1 h2 h3 => (Below.heap_setCell _ _ _ _ h2).trans (h.two.block k h1 h2 h3)⟩

/-- Behind the append: the Limiter's row. -/
theorem Locked.rowGrown {w W w' : World} {b : Nat} {og : Option Nat} {n win : Int} {m : Nat} {f : Nat → Int} {T : Int} {v : Value} (h : Locked w W b og n win m f T v) (hne : og ≠ some b) (hgr : W.grownBy w' og) : w'.heap[b]? = some (.cells (LC n win 1 v) 39 (0, 0)) :=
  (hgr.block b (Array.getElem?_eq_some_iff.1 h.row).1 (fun e => hne e.symm)).trans h.row

/-- Behind the append, the store and the unlock. -/
theorem Locked.finish {w W w' : World} {b : Nat} {og og' : Option Nat} {n win : Int} {m m' : Nat} {f f' : Nat → Int} {T : Int} {v v' : Value} (h : Locked w W b og n win m f T v) (hne : og ≠ some b) (hgr : W.grownBy w' og) (hs : SliceIs w' og' v' m' f')
    (hog : og' = og ∨ ∃ g', og' = some g' ∧ W.heap.size ≤ g') :
    (w'.setCell ⟨b, 4, none⟩ v').cell? ⟨b, 2, none⟩ = some (.int .i32 1) ∧ (w'.setCell ⟨b, 4, none⟩ v').frozen? ⟨b, 2, none⟩ = false ∧ (og' = og ∨ ∃ g', og' = some g' ∧ w.heap.size ≤ g') ∧
      Two b og w ((w'.setCell ⟨b, 4, none⟩ v').setCell ⟨b, 2, none⟩ (.int .i32 0)) ∧ Lim ((w'.setCell ⟨b, 4, none⟩ v').setCell ⟨b, 2, none⟩ (.int .i32 0)) b og' n win m' f' := by
  have hr := h.rowGrown hne hgr
  have hbl : b < W.heap.size := (Array.getElem?_eq_some_iff.1 h.row).1
  have hr4 : (w'.setCell ⟨b, 4, none⟩ v').heap[b]? = some (.cells (LC n win 1 v') 39 (0, 0)) := heap_setCell_same _ _ _ _ _ _ hr
  have hne' : og' ≠ some b := by
    rcases hog with rfl | ⟨g', rfl, hg'⟩
    · exact hne
    · intro e; cases e; omega
  refine ⟨(cell_of_row _ _ _ _ _ _ hr4).trans rfl, frozen_of_row _ _ _ _ _ hr4, ?_, ?_, ⟨⟨v', heap_setCell_same _ _ _ _ _ _ hr4, hs.later fun k hk ho => ?_⟩, hne'⟩⟩
  · rcases hog with e | ⟨g', e, hg'⟩
    · exact Or.inl e
    · exact Or.inr ⟨g', e, Nat.le_trans h.two.size hg'⟩
  · refine ⟨hgr.os.trans h.two.os, hgr.tape.trans h.two.tape, hgr.output.trans h.two.output, Nat.le_trans h.two.size (Nat.le_trans hgr.size (by simp [World.setCell])), fun k h1 h2 h3 => ?_⟩
    rw [Below.heap_setCell _ _ _ _ h2, Below.heap_setCell _ _ _ _ h2, hgr.block k (Nat.lt_of_lt_of_le h1 h.two.size) h3]
    exact h.two.block k h1 h2 h3
  · have hkb : k ≠ b := fun e => hne' (by rw [← ho, e])
    rw [Below.heap_setCell _ _ _ _ hkb, Below.heap_setCell _ _ _ _ hkb]

set_option maxHeartbeats 1600000 in
set_option maxRecDepth 20000 in
theorem allow_any (b : Nat) (og : Option Nat) (n win : Int) (m : Nat) (f : Nat → Int) (T : Int) (w : World) (hL : Lim w b og n win m f) (hm : m ≤ 1048576) (hf : ∀ j, j < m → Ok (f j)) (hT : Ok T) :
    Calls Try.prog 9 #[.pointer (some ⟨b, 0, none⟩), .agg (TQ (T % 1000000000) (T / 1000000000))] w (AllowEnds b og n win m f T w) := by
  obtain ⟨⟨v, hrow, hsl⟩, hne⟩ := hL
  have hbl : b < w.heap.size := (Array.getElem?_eq_some_iff.1 hrow).1
  have hr1 : (w.alloc (.cells (TQ (T % 1000000000) (T / 1000000000)) 44)).heap[b]? = some (.cells (LC n win 0 v) 39 (0, 0)) := (Below.heap_alloc _ _ _ hbl).trans hrow
  have l2 : (w.alloc (.cells (TQ (T % 1000000000) (T / 1000000000)) 44)).cell? ⟨b, 0 + 2, none⟩ = some (.int .i32 0) := (cell_of_row _ _ _ _ _ _ hr1).trans rfl
  have f2 := frozen_of_row _ b (0 + 2) _ _ hr1
  have HF := hide hf; clear hf
  have HR1 := hide hr1; clear hr1
  obtain ⟨W, hW⟩ : ∃ W, W = (w.setCell ⟨b, 2, none⟩ (.int .i32 1)).alloc (.cells (TQ (T % 1000000000) (T / 1000000000)) 44) := ⟨_, rfl⟩
  have hWl : Locked w W b og n win m f T v := by rw [hW]; exact locked hrow hsl hne
  have HW := hide hW; clear hW
  obtain ⟨a, c, rfl⟩ := hsl.form
  go_enter_defers Try.func9, Try.ntmps9
  go_wp2_with fail
  refine (lock_free Try.muLib ⟨b, 2, none⟩ _ l2 f2).mono ?_
  rintro e w1 ⟨rfl, rfl⟩
  go_upto_block 0 with fail
  rw [← HW.out]
  clear l2 f2 HR1
  have hTq : 0 ≤ T % 1000000000 ∧ T % 1000000000 < 1000000000 := by omega
  have hTe : -2305843010 ≤ T / 1000000000 ∧ T / 1000000000 ≤ 2305843010 := by obtain ⟨h1, h2⟩ := hT; omega
  go_cut [5] from 13 (fun i wc => Below W.heap.size W wc ∧ ∃ k : Nat, k ≤ m ∧ i = .int .i64 k ∧ (∀ j, j < k → win ≤ T - f j) ∧ (k < m → T - f k < win))
  case first =>
    go_wp2_with fail
    go_loopw [5] (fun i wr => Below W.heap.size W wr ∧ ∃ k : Nat, k ≤ m ∧ i = .int .i64 k ∧ ∀ j, j < k → win ≤ T - f j) (fun i _ => (m - intOf i).toNat)
    case atStart => exact ⟨Below.refl _ _, 0, by omega, rfl, fun j hj => by omega⟩
    case round =>
      obtain ⟨hb, k, hk, rfl, hold⟩ := hrel
      have HO := hide hold; clear hold
      have hl1 := hWl.later hb
      by_cases hlt : k < m
      · obtain ⟨g, o, hog, hgl, hix, e0, e1, e2⟩ := hl1.sl.at k hlt
        obtain ⟨hF1, hF2⟩ := HF.out k hlt
        have hkm : (k : Int) < (m : Int) := by omega
        have HC := hide (show ∀ w', Below wr.heap.size wr w' → w'.cell? ⟨b, 1, none⟩ = some (.int .i64 win) ∧ w'.cell? ⟨b, 4, none⟩ = some (.slice a m c) ∧ w'.cell? ⟨w.heap.size, 0, none⟩ = some (.int .u64 (T % 1000000000)) ∧ w'.cell? ⟨w.heap.size, 1, none⟩ = some (.int .i64 (T / 1000000000)) ∧ w'.cell? ⟨w.heap.size, 2, none⟩ = some (.pointer none) ∧ w'.cell? ⟨g, o, none⟩ = some (.int .u64 (f k % 1000000000)) ∧ w'.cell? ⟨g, o + 1, none⟩ = some (.int .i64 (f k / 1000000000)) ∧ w'.cell? ⟨g, o + 2, none⟩ = some (.pointer none) from fun w' h => hl1.cells h e0 e1 e2)
        have hBd : Below wr.heap.size wr wr.drew := (Below.refl _ _).drew
        clear e0 e1 e2
        by_cases hge : win ≤ T - f k
        · go_wp2_with fail
          go_region_held3 (fun w' => w'.cell? ⟨b, 1, none⟩ = some (.int .i64 win) ∧ w'.cell? ⟨b, 4, none⟩ = some (.slice a m c) ∧ w'.cell? ⟨w.heap.size, 0, none⟩ = some (.int .u64 (T % 1000000000)) ∧ w'.cell? ⟨w.heap.size, 1, none⟩ = some (.int .i64 (T / 1000000000)) ∧ w'.cell? ⟨w.heap.size, 2, none⟩ = some (.pointer none) ∧ w'.cell? ⟨g, o, none⟩ = some (.int .u64 (f k % 1000000000)) ∧ w'.cell? ⟨g, o + 1, none⟩ = some (.int .i64 (f k / 1000000000)) ∧ w'.cell? ⟨g, o + 2, none⟩ = some (.pointer none)) (first | exact HC.out _ hBd | exact HC.out _ hB3)
            (first | (go_at_call 13; refine (sub_any (T % 1000000000) (T / 1000000000) (f k % 1000000000) (f k / 1000000000) (T - f k) _ hTq (by omega) hTe (by omega) (by obtain ⟨h1, h2⟩ := hT; omega) (by omega)).mono ?_; rintro _ w3 ⟨rfl, hb3⟩; have hB3 := hBd.trans (hb3.mono hBd.size)))
          go_wp2
          refine ⟨⟨hb.trans (hB3.mono hb.size), k + 1, by omega, by go_num, fun j hj => ?_⟩, by simp [intOf]; omega⟩
          by_cases e : j = k
          · rw [e]; exact hge
          · exact HO.out j (by omega)
        · go_wp2_with fail
          go_region_held3 (fun w' => w'.cell? ⟨b, 1, none⟩ = some (.int .i64 win) ∧ w'.cell? ⟨b, 4, none⟩ = some (.slice a m c) ∧ w'.cell? ⟨w.heap.size, 0, none⟩ = some (.int .u64 (T % 1000000000)) ∧ w'.cell? ⟨w.heap.size, 1, none⟩ = some (.int .i64 (T / 1000000000)) ∧ w'.cell? ⟨w.heap.size, 2, none⟩ = some (.pointer none) ∧ w'.cell? ⟨g, o, none⟩ = some (.int .u64 (f k % 1000000000)) ∧ w'.cell? ⟨g, o + 1, none⟩ = some (.int .i64 (f k / 1000000000)) ∧ w'.cell? ⟨g, o + 2, none⟩ = some (.pointer none)) (first | exact HC.out _ hBd | exact HC.out _ hB3)
            (first | (go_at_call 13; refine (sub_any (T % 1000000000) (T / 1000000000) (f k % 1000000000) (f k / 1000000000) (T - f k) _ hTq (by omega) hTe (by omega) (by obtain ⟨h1, h2⟩ := hT; omega) (by omega)).mono ?_; rintro _ w3 ⟨rfl, hb3⟩; have hB3 := hBd.trans (hb3.mono hBd.size)))
          go_wp2
          go_meet
          case rel => exact ⟨hb.trans (hB3.mono hb.size), k, hk, rfl, HO.out, fun _ => by omega⟩
      · have hc4 : wr.cell? ⟨b, 4, none⟩ = some (.slice a m c) := (cell_of_row _ _ _ _ _ _ hl1.row).trans rfl
        have hdk : decide ((k : Int) < (m : Int)) = false := by simp; omega
        go_wp2_with fail
        go_quiet (fail)
        go_wp2
        go_meet
        case rel => exact ⟨below_drewN hb _, k, hk, rfl, HO.out, fun h => absurd h hlt⟩
  case rest =>
    obtain ⟨hb, k, hk, rfl, hold, hstop⟩ := hcut
    rename World => wc
    have HO := hide hold; clear hold
    have HST := hide hstop; clear hstop
    have hl1 := hWl.later hb
    obtain ⟨v', a', c', hv', hslc, hsl'⟩ := hl1.sl.cut k hk
    have hl2 := hl1.store hne hsl'
    subst hv'
    have hc4 : wc.cell? ⟨b, 4, none⟩ = some (.slice a m c) := (cell_of_row _ _ _ _ _ _ hl1.row).trans rfl
    have hf4 := frozen_of_row _ b 4 _ _ hl1.row
    clear hWl hb hl1 hsl' HW
    go_wp2_with fail
    clear hc4 hf4 hslc
    generalize wc.setCell ⟨b, 4, none⟩ (.slice a' (m - k) c') = W2 at *
    have d4 : W2.cell? ⟨b, 4, none⟩ = some (.slice a' (m - k) c') := (cell_of_row _ _ _ _ _ _ hl2.row).trans rfl
    have d0 : W2.cell? ⟨b, 0, none⟩ = some (.int .i64 n) := (cell_of_row _ _ _ _ _ _ hl2.row).trans rfl
    by_cases hn : n ≤ ((m - k : Nat) : Int)
    · go_region
      go_wp2
      have hl3 := hl2.later ((Below.refl _ _).drew)
      have u2 : W2.drew.cell? ⟨b, 2, none⟩ = some (.int .i32 1) := (cell_of_row _ _ _ _ _ _ hl3.row).trans rfl
      have f2 := frozen_of_row _ b 2 _ _ hl3.row
      refine leaves_cons (f := 12) (args := #[.pointer (some ⟨b, 2, none⟩)]) (by simp) (by simp [go_sem]) ?_
      refine (unlock_deferred Try.muLib ⟨b, 2, none⟩ .returning _ u2 f2).mono ?_
      rintro e u' w'' ⟨rfl, rfl, rfl⟩
      obtain ⟨hLim, hTwo⟩ := hl3.unlock hne
      exact ⟨_, results_tmp rfl _ _ _, k, og, hk, HO.out, HST.out, Or.inl rfl, hTwo, Or.inr ⟨rfl, hn, hLim⟩⟩
    · go_region
      go_wp2
      have hl3 := hl2.later ((Below.refl _ _).drew)
      have x4 : W2.drew.cell? ⟨b, 4, none⟩ = some (.slice a' (m - k) c') := (cell_of_row _ _ _ _ _ _ hl3.row).trans rfl
      have xf : W2.drew.frozen? ⟨b, 4, none⟩ = false := frozen_of_row _ b 4 _ _ hl3.row
      have b0 : W2.drew.cell? ⟨w.heap.size, 0, none⟩ = some (.int .u64 (T % 1000000000)) := (cell_of_row _ _ _ _ _ _ hl3.box).trans rfl
      have b1 : W2.drew.cell? ⟨w.heap.size, 1, none⟩ = some (.int .i64 (T / 1000000000)) := (cell_of_row _ _ _ _ _ _ hl3.box).trans rfl
      have b2 : W2.drew.cell? ⟨w.heap.size, 2, none⟩ = some (.pointer none) := (cell_of_row _ _ _ _ _ _ hl3.box).trans rfl
      clear d4 d0 hl2
      generalize W2.drew = W3 at *
      have hB : Below W3.heap.size W3 (W3.alloc (.cells (TQ (T % 1000000000) (T / 1000000000)) 44)).drew := by go_grown
      have hl4 := hl3.later hB
      have hrn : (W3.alloc (.cells (TQ (T % 1000000000) (T / 1000000000)) 44)).drew.heap[W3.heap.size]? = some (.cells (TQ (T % 1000000000) (T / 1000000000)) 44 (0, 0)) := heap_alloc_new _ _
      have n0 : (W3.alloc (.cells (TQ (T % 1000000000) (T / 1000000000)) 44)).drew.cell? ⟨W3.heap.size, 0, none⟩ = some (.int .u64 (T % 1000000000)) := (cell_of_row _ _ _ _ _ _ hrn).trans rfl
      have n1 : (W3.alloc (.cells (TQ (T % 1000000000) (T / 1000000000)) 44)).drew.cell? ⟨W3.heap.size, 1, none⟩ = some (.int .i64 (T / 1000000000)) := (cell_of_row _ _ _ _ _ _ hrn).trans rfl
      have n2 : (W3.alloc (.cells (TQ (T % 1000000000) (T / 1000000000)) 44)).drew.cell? ⟨W3.heap.size, 2, none⟩ = some (.pointer none) := (cell_of_row _ _ _ _ _ _ hrn).trans rfl
      have x4' : (W3.alloc (.cells (TQ (T % 1000000000) (T / 1000000000)) 44)).cell? ⟨b, 4, none⟩ = some (.slice a' (m - k) c') := (cell_of_row _ _ _ _ _ _ hl4.row).trans rfl
      have N0 := hide n0; have N1 := hide n1; have N2 := hide n2
      clear n0 n1 n2 hrn
      refine wp_region_noPanic ?_
      go_region_law (refine step_app rfl (.tmp 61) (.tmp 63) rfl og (.slice a' (m - k) c') (m - k) (fun j => f (k + j)) T rfl hl4.sl (by omega) W3.heap.size rfl N0.out N1.out N2.out ?_; intro a1 cc w' og' hs' hog hgr; have hr5 := hl4.rowGrown hne hgr; have y4 : w'.cell? ⟨b, 4, none⟩ = some (.slice a' (m - k) c') := (cell_of_row _ _ _ _ _ _ hr5).trans rfl; have yf := frozen_of_row _ b 4 _ _ hr5; clear hr5)
      all_goals
        refine NoPanic.normal ?_
        go_wp2
        obtain ⟨u2, f2, hog2, hTwo, hLim⟩ := hl4.finish hne hgr hs' hog
        refine leaves_cons (f := 12) (args := #[.pointer (some ⟨b, 2, none⟩)]) (by simp) (by simp [go_sem]) ?_
        refine (unlock_deferred Try.muLib ⟨b, 2, none⟩ .returning _ u2 f2).mono ?_
        rintro e u' w'' ⟨rfl, rfl, rfl⟩
        exact ⟨_, results_tmp rfl _ _ _, k, og', hk, HO.out, HST.out, hog2, hTwo, Or.inl ⟨rfl, by omega, hLim⟩⟩
end Go.Proofs.Qxb6632588a
