/-
  THE WALKS' BASE for the seat: a slice of strings, as the walks are told of it.
-/
import Derived.Test.Qxb6632495aRows
import Derived.WalkKit
import Derived.WalkSpells
import Derived.WalkLawsBesides
import Derived.Handy
namespace Go.Proofs.Qxb6632495a
open Go.RowKit

theorem hide {p : Prop} (h : p) : Hid p := h

/-- The slice (a, n, cap) of strings holds s 0 .. s (n-1) in the world w: A k is the place of element k. -/
structure SL (w : World) (a : Option Addr) (n cap : Nat) (A : Nat → Addr) (s : Nat → ByteArray) : Prop where
  idx : ∀ (k : Nat), k < n → ∀ w', (Instr.indexAt 22 (.slice a n cap) (.int .i64 k)).run Try.prog w' = .ok (.pointer (some (A k))) w'
  cell : ∀ (k : Nat), k < n → w.cell? (A k) = some (.string (s k))
  le : n ≤ cap

/-- The call returns a bool; where it is true, S holds; the world stands. -/
def BoolRet (S : Prop) (w : World) (e : Ending) (w' : World) : Prop := ∃ r : Bool, e = .returned (.bool r) ∧ (r = true → S) ∧ w' = w
theorem boolRet_no {S : Prop} {w : World} : BoolRet S w (.returned (.bool false)) w := ⟨false, rfl, (fun h => by cases h), rfl⟩
theorem boolRet_yes {S : Prop} {w : World} (h : S) : BoolRet S w (.returned (.bool true)) w := ⟨true, rfl, fun _ => h, rfl⟩

set_option maxHeartbeats 400000 in
theorem shape_any (a b : Option Addr) (n cap m cap' : Nat) (B : Nat → Addr) (t : Nat → ByteArray) (w : World) (hn : n ≤ 1048576) (hm : m ≤ 1048576) (h2 : SL w b m cap' B t) :
    Calls Try.prog 7 #[.slice a n cap, .slice b m cap'] w (BoolRet (n = m) w) := by
  by_cases hnm : n = m
  · subst hnm
    go_enter Try.func7, Try.ntmps7
    go_wp2
    go_loop [5] (fun i => ∃ k : Nat, k ≤ n ∧ i = .int .i64 k) (fun i => (n - intOf i).toNat)
    case atStart => exact ⟨0, by omega, rfl⟩
    case round =>
      obtain ⟨k, hk, rfl⟩ := hrel
      by_cases hlt : k + 1 < n
      · have hi := h2.idx k (by omega)
        have hc := h2.cell k (by omega)
        go_wp2
        · go_ret
          exact boolRet_no
        · exact ⟨⟨k + 1, by omega, by go_num⟩, by simp [intOf]; omega⟩
      · go_wp2
        go_ret
        exact boolRet_yes (by trivial)
  · have e : ((n : Int) != (m : Int)) = true := by simp; omega
    go_enter Try.func7, Try.ntmps7
    go_wp2
    go_ret
    exact boolRet_no

set_option maxHeartbeats 400000 in
theorem small_any (p : ByteArray) (a b : Option Addr) (n cap m cap' : Nat) (A B : Nat → Addr) (s t : Nat → ByteArray) (w : World) (hp : p.size ≤ 1048576) (hn : n ≤ 1048576) (hm : m ≤ 1048576) (h1 : SL w a n cap A s) (h2 : SL w b m cap' B t)
    (hs : ∀ j, j < n → (s j).size ≤ 1048576) (ht : ∀ j, j < m → (t j).size ≤ 1048576) :
    Calls Try.prog 6 #[.string p, .slice a n cap, .slice b m cap'] w (BoolRet True w) := by
  have HS := hide hs; clear hs
  have HT := hide ht; clear ht
  go_enter Try.func6, Try.ntmps6
  go_wp2
  go_loop [7, 8] (fun x i => ∃ (k : Nat) (y : Int), k ≤ n ∧ i = .int .i64 k ∧ x = .int .i64 y ∧ 0 ≤ y ∧ y ≤ 1048576) (fun _ i => (n - intOf i).toNat)
  case atStart => exact ⟨0, _, by omega, rfl, rfl, by omega, by omega⟩
  case round =>
    obtain ⟨k, y, hk, rfl, rfl, hy0, hy1⟩ := hrel
    by_cases hlt : k < n
    · have hi := h1.idx k (by omega)
      have hc := h1.cell k (by omega)
      have hsk := HS.out k hlt
      go_wp2
      · go_ret
        exact boolRet_no
      · exact ⟨⟨k + 1, _, by omega, by go_num, rfl, by omega, by omega⟩, by simp [intOf]; omega⟩
    · go_wp2
      go_loop [7, 9] (fun x i => ∃ (k : Nat) (y : Int), k ≤ m ∧ i = .int .i64 k ∧ x = .int .i64 y ∧ 0 ≤ y ∧ y ≤ 1048576) (fun _ i => (m - intOf i).toNat)
      case atStart => exact ⟨0, _, by omega, rfl, rfl, by omega, by omega⟩
      case round =>
        obtain ⟨k, y, hk, rfl, rfl, hy0, hy1⟩ := hrel
        by_cases hlt : k < m
        · have hi := h2.idx k (by omega)
          have hc := h2.cell k (by omega)
          have hsk := HT.out k hlt
          go_wp2
          · go_ret
            exact boolRet_no
          · exact ⟨⟨k + 1, _, by omega, by go_num, rfl, by omega, by omega⟩, by simp [intOf]; omega⟩
        · go_wp2
          go_ret
          exact boolRet_yes trivial

/-- What zzBytes_.. promises where it says yes. -/
def Small (p : ByteArray) (n m : Nat) (s t : Nat → ByteArray) : Prop := p.size ≤ 1048576 ∧ n ≤ 1048576 ∧ m ≤ 1048576 ∧ (∀ j, j < n → (s j).size ≤ 1048576) ∧ ∀ j, j < m → (t j).size ≤ 1048576

set_option maxHeartbeats 800000 in
theorem bytes5 (p : ByteArray) (a b : Option Addr) (n cap m cap' : Nat) (x : Int) (A B : Nat → Addr) (s t : Nat → ByteArray) (w : World) (hp : p.size ≤ 9223372036854775807) (hn : n ≤ 9223372036854775807) (hm : m ≤ 9223372036854775807) (h1 : SL w a n cap A s) (h2 : SL w b m cap' B t)
    (hs : ∀ j, j < n → (s j).size ≤ 9223372036854775807) (ht : ∀ j, j < m → (t j).size ≤ 9223372036854775807) :
    Calls Try.prog 5 #[.string p, .slice a n cap, .slice b m cap', .int .i64 x] w (BoolRet (Small p n m s t) w) := by
  have HS := hide hs; clear hs
  have HT := hide ht; clear ht
  by_cases c1 : p.size ≤ 1048576
  · by_cases c2 : n ≤ 1048576
    · by_cases c3 : p.size + n ≤ 1048576
      · go_enter Try.func5, Try.ntmps5
        go_wp2
        go_loop [9, 10] (fun x i => ∃ (k : Nat) (y : Int), k ≤ n ∧ i = .int .i64 k ∧ x = .int .i64 y ∧ 0 ≤ y ∧ y ≤ 1048576 ∧ ∀ j, j < k → (s j).size ≤ 1048576) (fun _ i => (n - intOf i).toNat)
        case atStart => exact ⟨0, _, by omega, rfl, rfl, by omega, by omega, fun j hj => by omega⟩
        case round =>
          obtain ⟨k, y, hk, rfl, rfl, hy0, hy1, hj⟩ := hrel
          have HJ := hide hj; clear hj
          by_cases hlt : k < n
          · have hi := h1.idx k (by omega)
            have hc := h1.cell k (by omega)
            have hsk := HS.out k hlt
            by_cases d1 : (s k).size ≤ 1048576
            · go_wp2
              · go_ret
                exact boolRet_no
              · refine ⟨⟨k + 1, _, by omega, by go_num, rfl, by omega, by omega, fun j hj => ?_⟩, by simp [intOf]; omega⟩
                by_cases e : j = k
                · rw [e]; exact d1
                · exact HJ.out j (by omega)
            · go_wp2
              go_ret
              exact boolRet_no
          · by_cases c4 : m ≤ 1048576
            · by_cases c5 : y + m ≤ 1048576
              · go_wp2
                go_loop [9, 11] (fun x i => ∃ (k : Nat) (y : Int), k ≤ m ∧ i = .int .i64 k ∧ x = .int .i64 y ∧ 0 ≤ y ∧ y ≤ 1048576 ∧ ∀ j, j < k → (t j).size ≤ 1048576) (fun _ i => (m - intOf i).toNat)
                case atStart => exact ⟨0, _, by omega, rfl, rfl, by omega, by omega, fun j hj => by omega⟩
                case round =>
                  obtain ⟨k', y', hk', rfl, rfl, hy0', hy1', hj'⟩ := hrel
                  have HJ' := hide hj'; clear hj'
                  by_cases hlt' : k' < m
                  · have hi := h2.idx k' (by omega)
                    have hc := h2.cell k' (by omega)
                    have hsk := HT.out k' hlt'
                    by_cases d1 : (t k').size ≤ 1048576
                    · go_wp2
                      · go_ret
                        exact boolRet_no
                      · refine ⟨⟨k' + 1, _, by omega, by go_num, rfl, by omega, by omega, fun j hj => ?_⟩, by simp [intOf]; omega⟩
                        by_cases e : j = k'
                        · rw [e]; exact d1
                        · exact HJ'.out j (by omega)
                    · go_wp2
                      go_ret
                      exact boolRet_no
                  · go_wp2
                    go_ret
                    exact boolRet_yes ⟨c1, c2, c4, fun j hj => HJ.out j (by omega), fun j hj => HJ'.out j (by omega)⟩
              · go_wp2
                go_ret
                exact boolRet_no
            · go_wp2
              go_ret
              exact boolRet_no
      · go_enter Try.func5, Try.ntmps5
        go_wp2
        go_ret
        exact boolRet_no
    · go_enter Try.func5, Try.ntmps5
      go_wp2
      go_ret
      exact boolRet_no
  · go_enter Try.func5, Try.ntmps5
    go_wp2
    go_ret
    exact boolRet_no

set_option maxHeartbeats 800000 in
theorem bytes11 (p : ByteArray) (a b : Option Addr) (n cap m cap' : Nat) (A B : Nat → Addr) (s t : Nat → ByteArray) (w : World) (hp : p.size ≤ 9223372036854775807) (hn : n ≤ 9223372036854775807) (hm : m ≤ 9223372036854775807) (h1 : SL w a n cap A s) (h2 : SL w b m cap' B t)
    (hs : ∀ j, j < n → (s j).size ≤ 9223372036854775807) (ht : ∀ j, j < m → (t j).size ≤ 9223372036854775807) :
    Calls Try.prog 11 #[.string p, .slice a n cap, .slice b m cap'] w (BoolRet (Small p n m s t) w) := by
  have HS := hide hs; clear hs
  have HT := hide ht; clear ht
  by_cases c1 : p.size ≤ 1048576
  · by_cases c2 : n ≤ 1048576
    · by_cases c3 : p.size + n ≤ 1048576
      · go_enter Try.func11, Try.ntmps11
        go_wp2
        go_loop [7, 8] (fun x i => ∃ (k : Nat) (y : Int), k ≤ n ∧ i = .int .i64 k ∧ x = .int .i64 y ∧ 0 ≤ y ∧ y ≤ 1048576 ∧ ∀ j, j < k → (s j).size ≤ 1048576) (fun _ i => (n - intOf i).toNat)
        case atStart => exact ⟨0, _, by omega, rfl, rfl, by omega, by omega, fun j hj => by omega⟩
        case round =>
          obtain ⟨k, y, hk, rfl, rfl, hy0, hy1, hj⟩ := hrel
          have HJ := hide hj; clear hj
          by_cases hlt : k < n
          · have hi := h1.idx k (by omega)
            have hc := h1.cell k (by omega)
            have hsk := HS.out k hlt
            by_cases d1 : (s k).size ≤ 1048576
            · go_wp2
              · go_ret
                exact boolRet_no
              · refine ⟨⟨k + 1, _, by omega, by go_num, rfl, by omega, by omega, fun j hj => ?_⟩, by simp [intOf]; omega⟩
                by_cases e : j = k
                · rw [e]; exact d1
                · exact HJ.out j (by omega)
            · go_wp2
              go_ret
              exact boolRet_no
          · by_cases c4 : m ≤ 1048576
            · by_cases c5 : y + m ≤ 1048576
              · go_wp2
                go_loop [7, 9] (fun x i => ∃ (k : Nat) (y : Int), k ≤ m ∧ i = .int .i64 k ∧ x = .int .i64 y ∧ 0 ≤ y ∧ y ≤ 1048576 ∧ ∀ j, j < k → (t j).size ≤ 1048576) (fun _ i => (m - intOf i).toNat)
                case atStart => exact ⟨0, _, by omega, rfl, rfl, by omega, by omega, fun j hj => by omega⟩
                case round =>
                  obtain ⟨k', y', hk', rfl, rfl, hy0', hy1', hj'⟩ := hrel
                  have HJ' := hide hj'; clear hj'
                  by_cases hlt' : k' < m
                  · have hi := h2.idx k' (by omega)
                    have hc := h2.cell k' (by omega)
                    have hsk := HT.out k' hlt'
                    by_cases d1 : (t k').size ≤ 1048576
                    · go_wp2
                      · go_ret
                        exact boolRet_no
                      · refine ⟨⟨k' + 1, _, by omega, by go_num, rfl, by omega, by omega, fun j hj => ?_⟩, by simp [intOf]; omega⟩
                        by_cases e : j = k'
                        · rw [e]; exact d1
                        · exact HJ'.out j (by omega)
                    · go_wp2
                      go_ret
                      exact boolRet_no
                  · go_wp2
                    go_ret
                    exact boolRet_yes ⟨c1, c2, c4, fun j hj => HJ.out j (by omega), fun j hj => HJ'.out j (by omega)⟩
              · go_wp2
                go_ret
                exact boolRet_no
            · go_wp2
              go_ret
              exact boolRet_no
      · go_enter Try.func11, Try.ntmps11
        go_wp2
        go_ret
        exact boolRet_no
    · go_enter Try.func11, Try.ntmps11
      go_wp2
      go_ret
      exact boolRet_no
  · go_enter Try.func11, Try.ntmps11
    go_wp2
    go_ret
    exact boolRet_no

end Go.Proofs.Qxb6632495a
