/-
  'append' of one instant to the Limiter's slice, as one step of a region that draws: there is room, or the array grows, or the slice is nil.
-/
import Derived.Test.Qxb6632588aA1
import Derived.Deep.RegionLawGrows
namespace Go.Proofs.Qxb6632588a
open Go.RowKit

theorem info44 : (Try.prog.info? 44).map (fun i => (i.zero, i.size, i.bytes)) = some (some (.agg #[.int .u64 0, .int .i64 0, .pointer none]), 3, 24) := by kernel_rfl

/-- f with T behind its first p. -/
def snoc (f : Nat → Int) (p : Nat) (T : Int) : Nat → Int := fun j => if j < p then f j else T

theorem El.set {C : Array Value} {o : Nat} {T : Int} (h : El C o T) (i : Nat) (v : Value) (hi : i < o ∨ o + 2 < i) : El (C.setIfInBounds i v) o T := by
  obtain ⟨h0, h1, h2⟩ := h
  refine ⟨?_, ?_, ?_⟩ <;> (rw [Array.getElem?_setIfInBounds_ne (by omega)]; assumption)

theorem step_app {ops : Array Oper} {o : Oper} {a : Act} {w : World} {K : Act → World → Prop} {Q : Exit → Act → World → Prop} {E : Prop} (hg : o.guard = none) (s x : Operand)
    (hop : o.op = Op.call { callee := Callee.builtin Builtin.append, args := #[s, x], argTypes := #[37, 37] }) (og : Option Nat) (v : Value) (p : Nat) (f : Nat → Int) (T : Int) (hv : a.eval s = v) (hs : SliceIs w og v p f) (hp : p ≤ 1048576)
    (nb : Nat) (hx : a.eval x = .slice (some ⟨nb, 0, none⟩) 1 1) (c0 : w.cell? ⟨nb, 0, none⟩ = some (.int .u64 (T % 1000000000))) (c1 : w.cell? ⟨nb, 1, none⟩ = some (.int .i64 (T / 1000000000))) (c2 : w.cell? ⟨nb, 2, none⟩ = some (.pointer none))
    (hK : ∀ a1 c1 w' og', SliceIs w' og' (.slice a1 (p + 1) c1) (p + 1) (snoc f p T) → (og' = og ∨ ∃ g', og' = some g' ∧ w.heap.size ≤ g') → w.grownBy w' og → K (a.put o.dst (.slice a1 (p + 1) c1)) w') :
    if Region.wanted o (yielded ops a.tmps) = true then Oper.wp Try.prog o a w K Q else E := by
  obtain ⟨i, hi, hz0, hz1, hz2⟩ := info_parts info44
  have hadd : ∀ g o' j : Nat, (⟨g, o', none⟩ : Addr).add j = ⟨g, o' + j, none⟩ := fun g o' j => by unfold Addr.add; split <;> simp_all
  have hnews : ∀ j u, ([.int .u64 (T % 1000000000), .int .i64 (T / 1000000000), .pointer none] : List Value)[j]? = some u → w.cell? ((⟨nb, 0, none⟩ : Addr).add j) = some u := by
    intro j u hu
    rw [hadd, Nat.zero_add]
    match j, hu with
    | 0, hu => simp at hu; rw [c0, hu]
    | 1, hu => simp at hu; rw [c1, hu]
    | 2, hu => simp at hu; rw [c2, hu]
    | j + 3, hu => simp at hu
  have hone : ∀ u ∈ ([.int .u64 (T % 1000000000), .int .i64 (T / 1000000000), .pointer none] : List Value), u.oneCell' = true := by
    intro u hu
    simp at hu
    rcases hu with rfl | rfl | rfl <;> rfl
  have grows : ∀ (ao : Option Addr) (cap : Nat) (olds : List Value), v = .slice ao p cap → (ao = none → p = 0 ∧ cap = 0) → olds.length = p * 3 → (∀ b, ao = some b → ∀ j u, olds[j]? = some u → w.cell? (b.add j) = some u) → cap < p + 1 →
      (∀ j, j < p → olds[j * 3]? = some (.int .u64 (f j % 1000000000)) ∧ olds[j * 3 + 1]? = some (.int .i64 (f j / 1000000000)) ∧ olds[j * 3 + 2]? = some (.pointer none)) → if Region.wanted o (yielded ops a.tmps) = true then Oper.wp Try.prog o a w K Q else E := by
    intro ao cap olds hvv hno hlo hold hfull hel
    refine step_append_grows hg s x 37 hop 44 i _ 3 24 Try.underlying37 hi hz0 hz1 hz2 rfl (by decide) ao p cap olds (hv.trans hvv) hno hlo hold ⟨nb, 0, none⟩ 1 1 _ hx rfl hnews hone hfull (by unfold maxLen; omega) (by omega) ?_
    intro v' w' hown hgr
    rcases hown.2 with ⟨_, h0⟩ | ⟨g', cap', cur, hv', hg', hcur, hn', _, hsz, htake⟩
    · omega
    · subst hv'
      have hidx : ∀ j, j < (p + 1) * 3 → cur[j]? = (olds ++ [.int .u64 (T % 1000000000), .int .i64 (T / 1000000000), .pointer none])[j]? := by
        intro j hj
        rw [← htake, List.getElem?_take, if_pos hj, Array.getElem?_toList]
      refine hK _ _ _ (some g') (Or.inr ⟨g', 0, cap', cur, rfl, rfl, hn', hcur, by omega, fun j hj => ?_⟩) (Or.inr ⟨g', rfl, hg'⟩) ⟨hgr.os, hgr.tape, hgr.output, hgr.size, fun k hk _ => hgr.block k hk (by simp)⟩
      by_cases hjp : j < p
      · have := hel j hjp
        refine ⟨?_, ?_, ?_⟩ <;> (rw [hidx _ (by omega), List.getElem?_append_left (by omega), Nat.zero_add]; (try simp only [snoc, hjp, if_true]); first | exact this.1 | exact this.2.1 | exact this.2.2)
      · obtain rfl : j = p := by omega
        refine ⟨?_, ?_, ?_⟩ <;> (rw [hidx _ (by omega), List.getElem?_append_right (by omega), hlo]; simp [snoc])
  rcases hs with ⟨rfl, rfl, rfl⟩ | ⟨g, off, cap, C, rfl, rfl, hm, hr, hsz, he⟩
  · exact grows none 0 [] rfl (fun _ => ⟨rfl, rfl⟩) rfl (fun b hb => by cases hb) (by omega) (fun j hj => by omega)
  · by_cases hroom : p + 1 ≤ cap
    · refine step_append_room hg s x 37 hop 44 i 3 Try.underlying37 hi hz1 g off p cap hv ⟨nb, 0, none⟩ 1 1 _ hx rfl hnews hone hroom (fun j hj => ?_) ?_
      · simp at hj
        refine ⟨?_, frozen_of_row _ _ _ _ _ hr⟩
        rw [cell_of_row _ _ _ _ _ _ hr, Array.getElem?_eq_getElem (by omega)]
        rfl
      · refine hK _ _ _ (some g) (Or.inr ⟨g, off, cap, _, rfl, rfl, hroom, heap_setCell_same _ _ _ _ _ _ (heap_setCell_same _ _ _ _ _ _ (heap_setCell_same _ _ _ _ _ _ hr)), by simpa using hsz, fun j hj => ?_⟩) (Or.inl rfl) ⟨rfl, rfl, rfl, by simp [World.setCells, World.setCell], fun k hk hkg => ?_⟩
        · by_cases hjp : j < p
          · have := (((he j hjp).set (off + p * 3) (.int .u64 (T % 1000000000)) (by omega)).set (off + p * 3 + 1) (.int .i64 (T / 1000000000)) (by omega)).set (off + p * 3 + 1 + 1) (.pointer none) (by omega)
            simp only [snoc, hjp, if_true]
            exact this
          · obtain rfl : j = p := by omega
            simp only [snoc, Nat.lt_irrefl, if_false]
            refine ⟨?_, ?_, ?_⟩
            · rw [Array.getElem?_setIfInBounds_ne (by omega), Array.getElem?_setIfInBounds_ne (by omega), Array.getElem?_setIfInBounds, if_pos rfl, if_pos (by omega)]
            · rw [Array.getElem?_setIfInBounds_ne (by omega), Array.getElem?_setIfInBounds, if_pos rfl, if_pos (by simp; omega)]
            · rw [Array.getElem?_setIfInBounds, if_pos rfl, if_pos (by simp; omega)]
        · have hkg' : k ≠ g := fun e => hkg (by rw [e])
          simp only [World.setCells]
          rw [Below.heap_setCell _ _ _ _ hkg', Below.heap_setCell _ _ _ _ hkg', Below.heap_setCell _ _ _ _ hkg']
    · refine grows (some ⟨g, off, none⟩) cap ((C.toList.drop off).take (p * 3)) rfl (fun h => by cases h) (by simp; omega) (fun b hb j u hu => ?_) (by omega) (fun j hj => ?_)
      · cases hb
        have hj : j < p * 3 := by have := (List.getElem?_eq_some_iff.1 hu).1; simp at this; omega
        rw [List.getElem?_take, if_pos hj, List.getElem?_drop, Array.getElem?_toList] at hu
        rw [hadd, cell_of_row _ _ _ _ _ _ hr]
        exact hu
      · obtain ⟨e0, e1, e2⟩ := he j hj
        refine ⟨?_, ?_, ?_⟩ <;> (rw [List.getElem?_take, if_pos (by omega), List.getElem?_drop, Array.getElem?_toList])
        · exact e0
        · rw [show off + (j * 3 + 1) = off + j * 3 + 1 from by omega]; exact e1
        · rw [show off + (j * 3 + 2) = off + j * 3 + 2 from by omega]; exact e2
end Go.Proofs.Qxb6632588a
