/-
  THE CALLEES of the laws over expr.IsName: isNameByte, IsName, zzExprB1FollowsOnly.
-/
import Derived.Test.Qxb6634823aRows
import Derived.WalkKit
import Derived.WalkSpells
import Derived.WalkLawsBesides
import Derived.Handy
namespace Go.Proofs.Qxb6634823a
open Go.RowKit

theorem hide {p : Prop} (h : p) : Hid p := h

/-- A byte that may lead a name. -/
def lead (c : Int) : Bool := decide (c = 95 ∨ (97 ≤ c ∧ c ≤ 122) ∨ (65 ≤ c ∧ c ≤ 90))
/-- A byte that may stand in a name. -/
def nb (c : Int) (first : Bool) : Bool := lead c || (!first && decide (c = 45 ∨ (48 ≤ c ∧ c ≤ 57)))

set_option maxHeartbeats 1600000 in
theorem nameByte_any (c : Int) (first : Bool) (w : World) : Calls Try.prog 8 #[.int .u8 c, .bool first] w fun e w' => e = .returned (.bool (nb c first)) ∧ w' = w := by
  by_cases h1 : c = 95
  · have e : ∀ b, nb c b = true := fun b => by simp [nb, lead]; omega
    rw [e]
    subst h1
    go_enter Try.func8, Try.ntmps8
    go_wp2
    go_ret
    exact ⟨rfl, rfl⟩
  have h1b : (c == 95) = false := by simp [h1]
  by_cases h2 : 97 ≤ c
  · by_cases h3 : c ≤ 122
    · have e : ∀ b, nb c b = true := fun b => by simp [nb, lead]; omega
      rw [e]
      go_enter Try.func8, Try.ntmps8
      go_wp2
      go_ret
      exact ⟨rfl, rfl⟩
    · have e : ∀ b, nb c b = false := fun b => by simp [nb, lead]; omega
      rw [e]
      have h4 : 65 ≤ c := by omega
      have h5 : ¬ c ≤ 90 := by omega
      have h6 : (c == 45) = false := by simp; omega
      have h7 : 48 ≤ c := by omega
      have h8 : ¬ c ≤ 57 := by omega
      cases first <;> (go_enter Try.func8, Try.ntmps8; go_wp2; go_ret; exact ⟨rfl, rfl⟩)
  · by_cases h4 : 65 ≤ c
    · by_cases h5 : c ≤ 90
      · have e : ∀ b, nb c b = true := fun b => by simp [nb, lead]; omega
        rw [e]
        go_enter Try.func8, Try.ntmps8
        go_wp2
        go_ret
        exact ⟨rfl, rfl⟩
      · have e : ∀ b, nb c b = false := fun b => by simp [nb, lead]; omega
        rw [e]
        have h6 : (c == 45) = false := by simp; omega
        have h7 : 48 ≤ c := by omega
        have h8 : ¬ c ≤ 57 := by omega
        cases first <;> (go_enter Try.func8, Try.ntmps8; go_wp2; go_ret; exact ⟨rfl, rfl⟩)
    · have e1 : nb c true = false := by simp [nb, lead]; omega
      have e2 : nb c false = decide (c = 45 ∨ (48 ≤ c ∧ c ≤ 57)) := by
        have : lead c = false := by simp [lead]; omega
        simp [nb, this]
      cases first with
      | true => rw [e1]; go_enter Try.func8, Try.ntmps8; go_wp2; go_ret; exact ⟨rfl, rfl⟩
      | false =>
        rw [e2]
        by_cases h6 : c = 45
        · subst h6
          go_enter Try.func8, Try.ntmps8; go_wp2; go_ret; exact ⟨rfl, rfl⟩
        · have h6b : (c == 45) = false := by simp [h6]
          by_cases h7 : 48 ≤ c
          · by_cases h8 : c ≤ 57
            · rw [decide_eq_true (by omega)]
              go_enter Try.func8, Try.ntmps8; go_wp2; go_ret; exact ⟨rfl, rfl⟩
            · rw [decide_eq_false (by omega)]
              go_enter Try.func8, Try.ntmps8; go_wp2; go_ret; exact ⟨rfl, rfl⟩
          · rw [decide_eq_false (by omega)]
            go_enter Try.func8, Try.ntmps8; go_wp2; go_ret; exact ⟨rfl, rfl⟩
end Go.Proofs.Qxb6634823a
