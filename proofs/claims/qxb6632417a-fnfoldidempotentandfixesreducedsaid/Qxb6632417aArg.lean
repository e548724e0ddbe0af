/-
  THE ARGUMENT OF BOTH LAWS: nil, or a pointer to sixteen words: read off the row's own reading.
-/
import Derived.Test.Qxb6632417aRows
import Derived.WalkKit
import Derived.ProofKit
import Derived.OpenShut
import Derived.ChangeOld
import Derived.Below
namespace Go.Proofs.Qxb6632417a
open Go.ChangeShapes Go.WideShapes Go.ChangeAt Go.RowKit

theorem own : ownKnob Try.prog.godebug = none := by kernel_rfl
theorem laidOut : laidOutB Try.prog = true := by kernel_rfl
theorem cells24 : Try.prog.cellsOf 24 = 16 := by kernel_rfl
theorem cells23 : Try.prog.cellsOf 23 = 1 := by kernel_rfl

/-- What the walk is told of the argument: nil, or a pointer to sixteen words. -/
def IsPtr (w : World) (v : Value) : Prop :=
  v = .pointer none ∨ ∃ (b off : Nat) (t : Nat → Int), v = .pointer (some ⟨b, off, none⟩) ∧ (∀ j, j < 16 → w.cell? ⟨b, off + j, none⟩ = some (.int .u64 (t j))) ∧ ∀ j, j < 16 → 0 ≤ t j ∧ t j ≤ 18446744073709551615

set_option maxRecDepth 100000 in
theorem isPtr {H : Type} {enc : TypeId × Value → H} {W : World} {base : Nat} {v0 : Value} {d0 : DataW H} {p0 : List MemPlace} (hv : Value.okWide Try.prog W .any base 22 v0)
    (h0 : DataW.Trod enc Try.prog W 0 (fun _ => true) true 22 v0 d0 p0) : IsPtr W v0 := by
  rcases ChangeShapes.open_ptr Try.underlying22 (by rw [cells24]; omega) hv h0 with ⟨rfl, rfl, rfl⟩ | ⟨b, off, cs, y, fuel, rfl, rfl, rfl, hlen, hcell, hy⟩
  · exact Or.inl rfl
  · rw [cells24] at hlen hcell
    obtain ⟨xs, m, rfl, hx, hcl, hxl, hel⟩ := DataW.trod_array Try.underlying24 hy
    refine Or.inr ⟨b, off, fun j => intOf (cs.getD j undef), rfl, ?_, ?_⟩
    all_goals
      intro j hj
      have hi := hel j hj
      rw [cells23, Nat.mul_one] at hi
      have hjx : j < xs.length := by omega
      have hjc : j < cs.length := by omega
      rw [List.getElem?_eq_getElem hjx] at hi
      obtain ⟨k, e0, _, hw⟩ := DataW.trod_int Try.underlying23 hi
      have ec : cs[j] = .int .u64 k := by
        have : (cs.drop j).take 1 = [cs[j]] := by
          rw [List.drop_eq_getElem_cons hjc]; rfl
        rw [this] at e0
        simpa using e0
      have eg : cs.getD j undef = .int .u64 k := by simp [List.getD, List.getElem?_eq_getElem hjc, ec]
    · rw [hcell j hj, List.getElem?_eq_getElem hjc, ec]
      show _ = some (Value.int .u64 (intOf (cs.getD j undef)))
      rw [eg]; rfl
    · simp only [eg, intOf]
      simp [Lit.wf, IntKind.min, IntKind.max, IntKind.signed, IntKind.bits] at hw
      omega

end Go.Proofs.Qxb6632417a
