/-
  THE WALKS (7): zzModP's answer as a function of the number; the head that both laws share.
-/
import Derived.Test.Qxb6632417aW4
import Derived.Test.Qxb6632417aW6
import Derived.Deep.WholeRow
import Derived.Deep.MidRow
namespace Go.Proofs.Qxb6632417a
open Go.RowKit

/-- The eight words of v. -/
def W8 (v : Int) : Nat → Int := fun j => v / BK j % 18446744073709551616

theorem W8_eq (g : Nat → Int) (hw : Word8 g) (j : Nat) (hj : j < 8) : g j = W8 (V8 g) j := by
  have b0 := hw 0 (by omega); have b1 := hw 1 (by omega); have b2 := hw 2 (by omega); have b3 := hw 3 (by omega)
  have b4 := hw 4 (by omega); have b5 := hw 5 (by omega); have b6 := hw 6 (by omega); have b7 := hw 7 (by omega)
  refine lt8 (P := fun j => g j = W8 (V8 g) j) ?_ ?_ ?_ ?_ ?_ ?_ ?_ ?_ j hj <;> (simp only [W8, V8, BK]; omega)

theorem C8_congr (g g' : Nat → Int) (hg : ∀ j, j < 8 → g j = g' j) : C8 g = C8 g' := by
  simp only [C8]
  rw [hg 0 (by omega), hg 1 (by omega), hg 2 (by omega), hg 3 (by omega), hg 4 (by omega), hg 5 (by omega), hg 6 (by omega), hg 7 (by omega)]

/-- zzModP, by the residue. -/
theorem modp_val (l : Nat → Int) (n : Nat) (X : Int) (hl : ∀ j, j < 16 → 0 ≤ l j ∧ l j ≤ 18446744073709551615) (hn0 : 1 ≤ n) (hn : n ≤ 16) (hX : Hz l n 0 % PP = X) (w : World) :
    Calls Try.prog 6 #[.agg (C16 l), .int .i64 n] w fun e w' => e = .returned (.agg (C8 (W8 X))) ∧ Below w.heap.size w w' := by
  refine (modp_any l n hl hn0 hn w).mono ?_
  rintro e w' ⟨g, rfl, hw, hv, hb⟩
  refine ⟨?_, hb⟩
  rw [C8_congr g (W8 X) (fun j hj => by rw [W8_eq g hw j hj, hv, hX])]

theorem modp16 (l : Nat → Int) (X : Int) (hl : ∀ j, j < 16 → 0 ≤ l j ∧ l j ≤ 18446744073709551615) (hX : Hz l 16 0 % PP = X) (w : World) :
    Calls Try.prog 6 #[.agg (C16 l), .int .i64 16] w fun e w' => e = .returned (.agg (C8 (W8 X))) ∧ Below w.heap.size w w' :=
  modp_val l 16 X hl (by omega) (by omega) hX w
theorem modp8 (l : Nat → Int) (X : Int) (hl : ∀ j, j < 16 → 0 ≤ l j ∧ l j ≤ 18446744073709551615) (hX : Hz l 8 0 % PP = X) (w : World) :
    Calls Try.prog 6 #[.agg (C16 l), .int .i64 8] w fun e w' => e = .returned (.agg (C8 (W8 X))) ∧ Below w.heap.size w w' :=
  modp_val l 8 X hl (by omega) (by omega) hX w

/-- zzLow's answer has the residue of the eight limbs. -/
theorem low_val (u r : Nat → Int) (h : ∀ j, j < 8 → u j = r j) : Hz u 8 0 = L8 r := by
  rw [L8_eq]
  unfold L8
  rw [h 0 (by omega), h 1 (by omega), h 2 (by omega), h 3 (by omega), h 4 (by omega), h 5 (by omega), h 6 (by omega), h 7 (by omega)]
theorem low_word (u r : Nat → Int) (h : ∀ j, j < 8 → u j = r j) (h0 : ∀ j, 8 ≤ j → u j = 0) (hr : ∀ j, j < 8 → 0 ≤ r j ∧ r j ≤ 18446744073709551615) : ∀ j, j < 16 → 0 ≤ u j ∧ u j ≤ 18446744073709551615 := by
  intro j hj
  by_cases e : j < 8
  · rw [h j e]; exact hr j e
  · rw [h0 j (by omega)]; omega

/-- A whole array stored into the block that was made last. -/
theorem st24 {ops : Array Oper} {rest : List Oper} {o : Oper} {a : Act} {w : World} {z : Array Value} {Q : Exit → Act → World → Prop} (hgd : o.guard = none) (hds : o.dst = none) (x y : Operand) (ho : o.op = .store 24 x y)
    (b : Nat) (hx : a.eval x = .pointer (some ⟨b, 0, none⟩)) (hb : b = w.heap.size) (g : Nat → Int) (hy : a.eval y = .agg (C16 g)) (hz : z.size = 16)
    (h : wpList Try.prog ops Q rest a (w.alloc (.cells (C16 g) 24))) : wpList Try.prog ops Q (o :: rest) a (w.alloc (.cells z 24)) := by
  subst hb
  refine wpList_store_row hgd 24 x y ho w.heap.size (C16 g) hx hy 24 z (heap_alloc_new _ _) (info24 g) (by rw [hz]; rfl) (one16 g) ?_
  rw [World.setRow_alloc_new, hds]
  exact h
theorem st25 {ops : Array Oper} {rest : List Oper} {o : Oper} {a : Act} {w : World} {z : Array Value} {Q : Exit → Act → World → Prop} (hgd : o.guard = none) (hds : o.dst = none) (x y : Operand) (ho : o.op = .store 25 x y)
    (b : Nat) (hx : a.eval x = .pointer (some ⟨b, 0, none⟩)) (hb : b = w.heap.size) (g : Nat → Int) (hy : a.eval y = .agg (C8 g)) (hz : z.size = 8)
    (h : wpList Try.prog ops Q rest a (w.alloc (.cells (C8 g) 25))) : wpList Try.prog ops Q (o :: rest) a (w.alloc (.cells z 25)) := by
  subst hb
  refine wpList_store_row hgd 25 x y ho w.heap.size (C8 g) hx hy 25 z (heap_alloc_new _ _) (info25 g) (by rw [hz]; rfl) (one8 g) ?_
  rw [World.setRow_alloc_new, hds]
  exact h

end Go.Proofs.Qxb6632417a
