/-
  THE ARGUMENTS OF BOTH LAWS, read off the row's own reading.
-/
import Derived.Test.Qxb6632495aK3
import Derived.ProofKit
import Derived.OpenShut
import Derived.ShutString
import Derived.ChangeOld
import Derived.SliceStrings
import Derived.Below
namespace Go.Proofs.Qxb6632495a
open Go.ChangeShapes Go.WideShapes Go.ChangeAt Go.RowKit
open Go.ChangeMaps (open_string shut_string)

theorem own : ownKnob Try.prog.godebug = none := by kernel_rfl
theorem laidOut : laidOutB Try.prog = true := by kernel_rfl

theorem isStrs {H : Type} {enc : TypeId × Value → H} {W : World} {d : DataW H} {p : List MemPlace} {a : Option Addr} {len cap : Nat}
    (h : DataW.Trod enc Try.prog W 0 (fun _ => true) true 22 (.slice a len cap) d p) : ∃ s, IsStrs W a len cap s := by
  obtain ⟨fuel, hf⟩ := h
  rcases open_strings Try.underlying22 Try.underlying9 (by kernel_rfl) hf with ⟨hcs, _⟩ | ⟨x, l, c, ss, hcs, _, hl, hm, hz, _, hcell, hsz⟩
  · simp [Value.cells] at hcs
    obtain ⟨rfl, rfl, rfl⟩ := hcs
    exact ⟨fun _ => ByteArray.empty, Or.inl ⟨rfl, rfl, rfl⟩⟩
  · simp [Value.cells] at hcs
    obtain ⟨rfl, rfl, rfl⟩ := hcs
    have hz' : ss.length = cap := by simpa using hz
    unfold maxLen at hm hsz
    refine ⟨fun i => ss.getD i ByteArray.empty, Or.inr ⟨x, rfl, hl, by omega, fun k hk => hcell k (by omega), fun k hk => ?_⟩⟩
    have hk' : k < ss.length := by omega
    have e : ss.getD k ByteArray.empty = ss[k] := by simp [List.getD, List.getElem?_eq_getElem hk']
    show (ss.getD k ByteArray.empty).size ≤ _
    rw [e]
    exact hsz _ (List.getElem_mem hk')

end Go.Proofs.Qxb6632495a
