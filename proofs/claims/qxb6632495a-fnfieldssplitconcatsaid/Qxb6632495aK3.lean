/-
  THE WALKS (3): what the two laws say of the slices that came in, and of the copies.
-/
import Derived.Test.Qxb6632495aK2
namespace Go.Proofs.Qxb6632495a
open Go.RowKit

/-- What came in: nil, or a row of strings. -/
def IsStrs (w : World) (a : Option Addr) (n cap : Nat) (s : Nat → ByteArray) : Prop :=
  (a = none ∧ n = 0 ∧ cap = 0) ∨ ∃ x : Addr, a = some x ∧ n ≤ cap ∧ n ≤ 9223372036854775807 ∧ (∀ k, k < n → w.cell? (x.add k) = some (.string (s k))) ∧ ∀ k, k < n → (s k).size ≤ 9223372036854775807
theorem IsStrs.sl {w : World} {a : Option Addr} {n cap : Nat} {s : Nat → ByteArray} (h : IsStrs w a n cap s) : ∃ A, SL w a n cap A s := by
  rcases h with ⟨rfl, rfl, rfl⟩ | ⟨x, rfl, h1, _, h2, _⟩
  · exact ⟨fun _ => ⟨0, 0, none⟩, slNil⟩
  · exact ⟨_, slSome h2 h1⟩
theorem IsStrs.le {w : World} {a : Option Addr} {n cap : Nat} {s : Nat → ByteArray} (h : IsStrs w a n cap s) : n ≤ 9223372036854775807 := by
  rcases h with ⟨rfl, rfl, rfl⟩ | ⟨x, rfl, h1, h2, _⟩
  · omega
  · exact h2
theorem IsStrs.each {w : World} {a : Option Addr} {n cap : Nat} {s : Nat → ByteArray} (h : IsStrs w a n cap s) : ∀ k, k < n → (s k).size ≤ 9223372036854775807 := by
  rcases h with ⟨rfl, rfl, rfl⟩ | ⟨x, rfl, h1, h2, _, h3⟩
  · intro k hk; omega
  · exact h3

theorem IsStrs.later {w w' : World} {a : Option Addr} {n cap : Nat} {s : Nat → ByteArray} (h : IsStrs w a n cap s) (hb : Below w.heap.size w w') : IsStrs w' a n cap s := by
  rcases h with h | ⟨x, rfl, h1, h2, h3, h4⟩
  · exact Or.inl h
  · exact Or.inr ⟨x, rfl, h1, h2, fun k hk => (hb.cell (block_lt_of_cell (h3 k hk))).trans (h3 k hk), h4⟩

/-- A slice of the call's own with the n strings s, or nil. -/
def OwnS (B : Nat) (w : World) (v : Value) (n : Nat) (s : Nat → ByteArray) : Prop :=
  (v = .slice none 0 0 ∧ n = 0) ∨ ∃ (g : Nat) (C : Array Value), v = .slice (some ⟨g, 0, none⟩) n n ∧ B ≤ g ∧ w.heap[g]? = some (.cells C 9 (0, 0)) ∧ ∀ j, j < n → C[j]? = some (.string (s j))
theorem OwnS.sl {B : Nat} {w : World} {v : Value} {n : Nat} {s : Nat → ByteArray} (h : OwnS B w v n s) : ∃ a cap A, v = .slice a n cap ∧ SL w a n cap A s := by
  rcases h with ⟨rfl, rfl⟩ | ⟨g, C, rfl, _, hr, hC⟩
  · exact ⟨none, 0, fun _ => ⟨0, 0, none⟩, rfl, slNil⟩
  · exact ⟨_, n, _, rfl, slOwn hr hC (Nat.le_refl _)⟩
theorem OwnS.later {B : Nat} {w w' : World} {v : Value} {n : Nat} {s : Nat → ByteArray} (h : OwnS B w v n s) (hb : Below w.heap.size w w') : OwnS B w' v n s := by
  rcases h with h | ⟨g, C, rfl, hg, hr, hC⟩
  · exact Or.inl h
  · exact Or.inr ⟨g, C, rfl, hg, (hb.block g (Array.getElem?_eq_some_iff.1 hr).1).trans hr, hC⟩

theorem FL.below {w w' : World} {g n B : Nat} {s t : Nat → ByteArray} (h : FL w g n s t) (hb : Below B w w') (hg : g < B) : FL w' g n s t :=
  fun j hj => ⟨(hb.cell (p := ⟨g, j * 2, none⟩) hg).trans (h j hj).1, (hb.cell (p := ⟨g, j * 2 + 1, none⟩) hg).trans (h j hj).2⟩
theorem SL.below {w w' : World} {a : Option Addr} {n cap B : Nat} {A : Nat → Addr} {s : Nat → ByteArray} (h : SL w a n cap A s) (hb : Below B w w') (hB : w.heap.size ≤ B) : SL w' a n cap A s := h.later (hb.mono hB)

end Go.Proofs.Qxb6632495a
