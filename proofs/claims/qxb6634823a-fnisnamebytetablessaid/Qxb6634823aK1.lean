/-
  expr.IsName AND zzExprB1FollowsOnly: each computes a plain function of the string's bytes.
-/
import Derived.Test.Qxb6634823aBase
namespace Go.Proofs.Qxb6634823a
open Go.RowKit

/-- Byte k of s as a number. -/
def bt (s : ByteArray) (k : Nat) : Int := ((s.data.toList.getD k 0).toNat : Int)
theorem bt_run (s : ByteArray) (k : Nat) (hk : k < s.size) (w' : World) : (Instr.index 9 (.string s) (.int .i64 k)).run Try.prog w' = .ok (.int .u8 (bt s k)) w' := by
  rw [run_index_string w' 9 s .i64 k Try.underlying9, dif_pos ⟨by omega, by omega⟩]
  have hk' : k < s.data.size := hk
  have e : s[(k : Int).toNat]'(by simpa using hk) = s.data[k] := rfl
  rw [e]
  have e2 : s.data.toList.getD k 0 = s.data[k] := by simp [List.getD, Array.getElem?_eq_getElem hk']
  rw [bt, e2]

/-- Every byte of l may follow. -/
def fol (l : List UInt8) : Bool := l.all fun c => nb (c.toNat : Int) false
/-- l is a name. -/
def isN : List UInt8 → Bool
  | [] => false
  | c :: cs => nb (c.toNat : Int) true && fol cs

theorem fol_iff (l : List UInt8) : fol l = true ↔ ∀ k, k < l.length → nb ((l.getD k 0).toNat : Int) false = true := by
  induction l with
  | nil => simp [fol]
  | cons c cs ih =>
    have e : fol (c :: cs) = (nb (c.toNat : Int) false && fol cs) := rfl
    rw [e, Bool.and_eq_true, ih]
    constructor
    · rintro ⟨h1, h2⟩ k hk
      cases k with
      | zero => exact h1
      | succ k => exact h2 k (by simpa using hk)
    · intro h
      exact ⟨h 0 (by simp), fun k hk => h (k + 1) (by simpa using hk)⟩
theorem isN_iff (l : List UInt8) : isN l = true ↔ l ≠ [] ∧ ∀ k, k < l.length → nb ((l.getD k 0).toNat : Int) (decide (k = 0)) = true := by
  cases l with
  | nil => simp [isN]
  | cons c cs =>
    have e : isN (c :: cs) = (nb (c.toNat : Int) true && fol cs) := rfl
    rw [e, Bool.and_eq_true, fol_iff]
    constructor
    · rintro ⟨h1, h2⟩
      refine ⟨by simp, fun k hk => ?_⟩
      cases k with
      | zero => exact h1
      | succ k => exact h2 k (by simpa using hk)
    · rintro ⟨_, h⟩
      exact ⟨h 0 (by simp), fun k hk => h (k + 1) (by simpa using hk)⟩

set_option maxHeartbeats 1600000 in
theorem isName_any (s : ByteArray) (hs : s.size ≤ 9223372036854775807) (w : World) : Calls Try.prog 6 #[.string s] w fun e w' => e = .returned (.bool (isN s.data.toList)) ∧ w' = w := by
  have hlen : s.data.toList.length = s.size := Array.length_toList
  go_enter Try.func6, Try.ntmps6
  go_wp2
  go_loopw [3, 6] (fun _ i wr => wr = w ∧ ∃ k : Nat, k ≤ s.size ∧ i = .int .i64 k ∧ ∀ j, j < k → nb (bt s j) (decide (j = 0)) = true) (fun _ i _ => (s.size - intOf i).toNat)
  case atStart => exact ⟨rfl, 0, by omega, rfl, fun j hj => by omega⟩
  case round =>
    obtain ⟨rfl, k, hk, rfl, hok⟩ := hrel
    have HOK := hide hok; clear hok
    by_cases hlt : k < s.size
    · have hi := bt_run s k hlt
      have he : ((k : Int) == 0) = decide (k = 0) := by
        by_cases h : k = 0
        · simp [h]
        · simp [h]
      go_wp2_with fail
      refine (nameByte_any (bt s k) _ _).mono ?_
      rintro _ _ ⟨rfl, rfl⟩
      clear he
      cases hn : nb (bt s k) (decide (k = 0)) with
      | true =>
        go_wp2
        refine ⟨⟨(by first | rfl | trivial), k + 1, by omega, by go_num, fun j hj => ?_⟩, by simp [intOf]; omega⟩
        by_cases e : j = k
        · rw [e]; exact hn
        · exact HOK.out j (by omega)
      | false =>
        have hf : isN s.data.toList = false := by
          cases h : isN s.data.toList with
          | false => rfl
          | true =>
            have := ((isN_iff _).1 h).2 k (by omega)
            rw [show ((s.data.toList.getD k 0).toNat : Int) = bt s k from rfl, hn] at this
            cases this
        have HF := hide hf; clear hf
        go_wp2
        go_ret
        exact ⟨by rw [HF.out]; rfl, rfl⟩
    · have hkl : k = s.size := by omega
      have hf : isN s.data.toList = !s.toList.isEmpty := by
        rw [ByteArray.toList_eq]
        cases h : s.data.toList with
        | nil => rfl
        | cons c cs =>
          rw [← h, (isN_iff _).2 ⟨by rw [h]; simp, fun j hj => HOK.out j (by omega)⟩, h]
          rfl
      have HF := hide hf; clear hf
      go_wp2
      go_ret
      exact ⟨by rw [HF.out]; rfl, rfl⟩

set_option maxHeartbeats 3200000 in
theorem follows_any (s : ByteArray) (hs : s.size ≤ 9223372036854775807) (w : World) : Calls Try.prog 7 #[.string s] w fun e w' => e = .returned (.bool (fol s.data.toList)) ∧ w' = w := by
  have hlen : s.data.toList.length = s.size := Array.length_toList
  go_enter Try.func7, Try.ntmps7
  go_wp2
  go_loopw [3, 4, 5] (fun i _ _ wr => wr = w ∧ ∃ k : Nat, k ≤ s.size ∧ i = .int .i64 k ∧ ∀ j, j < k → nb (bt s j) false = true) (fun i _ _ _ => (s.size - intOf i).toNat)
  case atStart => exact ⟨rfl, 0, by omega, rfl, fun j hj => by omega⟩
  case round =>
    obtain ⟨rfl, k, hk, rfl, hok⟩ := hrel
    have HOK := hide hok; clear hok
    by_cases hlt : k < s.size
    · have hi := bt_run s k hlt
      cases hn : nb (bt s k) false with
      | true =>
        have hfin : ∀ j, j < k + 1 → nb (bt s j) false = true := fun j hj => by
          by_cases e : j = k
          · rw [e]; exact hn
          · exact HOK.out j (by omega)
        have HF := hide hfin; clear hfin HOK
        simp only [nb, lead, Bool.not_false, Bool.true_and, Bool.or_eq_true, decide_eq_true_eq] at hn
        obtain ⟨c, hc⟩ : ∃ c, c = bt s k := ⟨_, rfl⟩
        rw [← hc] at hn hi
        clear hc
        by_cases a1 : 97 ≤ c <;> by_cases a2 : c ≤ 122 <;> (try omega) <;> by_cases b1 : 65 ≤ c <;> (try omega) <;> by_cases b2 : c ≤ 90 <;> (try omega) <;> by_cases d1 : 48 ≤ c <;> (try omega) <;> by_cases d2 : c ≤ 57 <;> (try omega) <;> by_cases e1 : c = 45 <;> (try omega) <;> by_cases e2 : c = 95 <;> (try omega)
        all_goals
          first | (have f1 : (c == 45) = true := by simpa using e1) | (have f1 : (c == 45) = false := by simpa using e1)
          first | (have f2 : (c == 95) = true := by simpa using e2) | (have f2 : (c == 95) = false := by simpa using e2)
          clear hn e1 e2
          go_wp2
          exact ⟨⟨(by first | rfl | trivial), k + 1, by omega, by go_num, HF.out⟩, by simp [intOf]; omega⟩
      | false =>
        have hf : fol s.data.toList = false := by
          cases h : fol s.data.toList with
          | false => rfl
          | true =>
            have := (fol_iff _).1 h k (by omega)
            rw [show ((s.data.toList.getD k 0).toNat : Int) = bt s k from rfl, hn] at this
            cases this
        have HF := hide hf; clear hf HOK
        simp only [nb, lead, Bool.not_false, Bool.true_and, Bool.or_eq_false_iff, decide_eq_false_iff_not] at hn
        obtain ⟨c, hc⟩ : ∃ c, c = bt s k := ⟨_, rfl⟩
        rw [← hc] at hn hi
        clear hc
        by_cases a1 : 97 ≤ c <;> by_cases a2 : c ≤ 122 <;> (try omega) <;> by_cases b1 : 65 ≤ c <;> (try omega) <;> by_cases b2 : c ≤ 90 <;> (try omega) <;> by_cases d1 : 48 ≤ c <;> (try omega) <;> by_cases d2 : c ≤ 57 <;> (try omega) <;> by_cases e1 : c = 45 <;> (try omega) <;> by_cases e2 : c = 95 <;> (try omega)
        all_goals
          first | (have f1 : (c == 45) = true := by simpa using e1) | (have f1 : (c == 45) = false := by simpa using e1)
          first | (have f2 : (c == 95) = true := by simpa using e2) | (have f2 : (c == 95) = false := by simpa using e2)
          clear hn e1 e2
          go_wp2
          go_ret
          exact ⟨by rw [HF.out]; rfl, rfl⟩
    · have hf : fol s.data.toList = true := (fol_iff _).2 fun j hj => HOK.out j (by omega)
      have HF := hide hf; clear hf HOK
      go_wp2
      go_ret
      exact ⟨by rw [HF.out]; rfl, rfl⟩
end Go.Proofs.Qxb6634823a
