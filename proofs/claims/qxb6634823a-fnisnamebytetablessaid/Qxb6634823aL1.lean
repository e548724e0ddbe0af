/-
  THE LAW FnIsNameConcatAnyCut: her walk.
-/
import Derived.Test.Qxb6634823aK1
namespace Go.Proofs.Qxb6634823a
open Go.RowKit

theorem fol_append (l m : List UInt8) : fol (l ++ m) = (fol l && fol m) := by simp [fol]
theorem isN_under (l : List UInt8) : isN (95 :: l) = fol l := by
  show (nb ((95 : UInt8).toNat : Int) true && fol l) = fol l
  rw [show nb ((95 : UInt8).toNat : Int) true = true from by decide, Bool.true_and]
theorem isN_append (l m : List UInt8) (h : l ≠ []) : isN (l ++ m) = (isN l && fol m) := by
  cases l with
  | nil => exact absurd rfl h
  | cons c cs =>
    show (nb (c.toNat : Int) true && fol (cs ++ m)) = (nb (c.toNat : Int) true && fol cs && fol m)
    rw [fol_append, Bool.and_assoc]
theorem append_bytes (a b : ByteArray) : (a ++ b).data.toList = a.data.toList ++ b.data.toList := by
  rw [ByteArray.data_append, Array.toList_append]

set_option maxHeartbeats 800000 in
theorem bytes5 (a b : ByteArray) (w : World) (ha : a.size ≤ 9223372036854775807) (hb : b.size ≤ 9223372036854775807) :
    Calls Try.prog 5 #[.string a, .string b] w fun e w' => e = .returned (.bool (decide (a.size ≤ 1048576 ∧ b.size ≤ 1048576 ∧ a.size + b.size ≤ 1048576))) ∧ w' = w := by
  by_cases h : a.size ≤ 1048576
  · by_cases h2 : b.size ≤ 1048576
    · by_cases h3 : (a.size : Int) + b.size ≤ 1048576
      · have h3' : a.size + b.size ≤ 1048576 := by omega
        go_enter Try.func5, Try.ntmps5
        go_wp2
        go_ret
        exact ⟨by simp [h, h2, h3'], rfl⟩
      · go_enter Try.func5, Try.ntmps5
        go_wp2
        go_ret
        exact ⟨by simp; omega, rfl⟩
    · go_enter Try.func5, Try.ntmps5
      go_wp2
      go_ret
      exact ⟨by simp [h2], rfl⟩
  · go_enter Try.func5, Try.ntmps5
    go_wp2
    go_ret
    exact ⟨by simp [h], rfl⟩

set_option maxHeartbeats 1600000 in
theorem law1 (a b : ByteArray) (ha : a.size ≤ 9223372036854775807) (hb : b.size ≤ 9223372036854775807) (w : World) :
    Calls Try.prog 3 #[.string a, .string b] w fun e w' => e = .returned (.bool true) ∧ w' = w := by
  go_enter Try.func3, Try.ntmps3
  go_wp2_with fail
  refine (bytes5 a b w ha hb).mono ?_
  rintro _ w' ⟨rfl, rfl⟩
  by_cases h20 : a.size ≤ 1048576 ∧ b.size ≤ 1048576 ∧ a.size + b.size ≤ 1048576
  · have hd20 : decide (a.size ≤ 1048576 ∧ b.size ≤ 1048576 ∧ a.size + b.size ≤ 1048576) = true := by simp [h20]
    by_cases h16 : a.size ≤ 65536
    · by_cases h16b : b.size ≤ 65536
      · obtain ⟨u, hu⟩ : ∃ u : ByteArray, u = a ++ b := ⟨_, rfl⟩
        obtain ⟨v, hv⟩ : ∃ v : ByteArray, v = ⟨#[95]⟩ ++ b := ⟨_, rfl⟩
        have hadd : ∀ w0, (Op.stringOp .add a b).run Try.prog w0 = .ok (.string u) w0 := fun w0 => by rw [hu]; exact run_string_add_sum w0 a b (by omega)
        have hadd2 : ∀ w0, (Op.stringOp .add ⟨#[95]⟩ b).run Try.prog w0 = .ok (.string v) w0 := fun w0 => by rw [hv]; exact run_string_add_sum w0 _ b (by show 1 + b.size ≤ _; omega)
        have e1 : u.size ≤ 9223372036854775807 := by rw [hu, ByteArray.size_append]; omega
        have e2 : v.size ≤ 9223372036854775807 := by rw [hv, ByteArray.size_append]; show 1 + b.size ≤ _; omega
        have f2 : isN v.data.toList = fol b.data.toList := by rw [hv, append_bytes]; exact isN_under _
        have f1 : isN u.data.toList = isN (a.data.toList ++ b.data.toList) := by rw [hu, append_bytes]
        have F1 := hide f1; have F2 := hide f2
        clear h20 f1 f2 hu hv
        go_wp2_with fail
        refine (isName_any u e1 _).mono ?_
        rintro _ _ ⟨rfl, rfl⟩
        rw [F1.out]
        go_wp2_with fail
        refine (isName_any v e2 _).mono ?_
        rintro _ _ ⟨rfl, rfl⟩
        rw [F2.out]
        clear F1 F2 hadd hadd2 e1 e2
        go_wp2_with fail
        refine (follows_any b hb _).mono ?_
        rintro _ _ ⟨rfl, rfl⟩
        by_cases hz : a.toList.isEmpty = true
        · have ha0 : a.data.toList = [] := by rw [← ByteArray.toList_eq]; simpa using hz
          have E : Hid (isN (a.data.toList ++ b.data.toList) = isN b.data.toList) := by rw [ha0]; exact rfl
          clear ha0
          go_wp2_with fail
          refine (isName_any b hb _).mono ?_
          rintro _ _ ⟨rfl, rfl⟩
          go_wp2_with fail
          go_ret
          exact ⟨by rw [E.out]; simp, rfl⟩
        · have ha0 : a.data.toList ≠ [] := by rw [← ByteArray.toList_eq]; simpa using hz
          have E : Hid (isN (a.data.toList ++ b.data.toList) = (isN a.data.toList && fol b.data.toList)) := isN_append _ _ ha0
          have hz' : a.toList.isEmpty = false := by simpa using hz
          clear ha0 hz
          go_wp2_with fail
          refine (isName_any a ha _).mono ?_
          rintro _ _ ⟨rfl, rfl⟩
          have E2 := E.out
          cases hn : isN a.data.toList with
          | true =>
            rw [hn] at E2
            clear E hn
            have E := hide E2; clear E2
            go_wp2_with fail
            go_ret
            exact ⟨by rw [E.out]; simp, rfl⟩
          | false =>
            rw [hn] at E2
            clear E hn
            have E := hide E2; clear E2
            go_wp2_with fail
            go_ret
            exact ⟨by rw [E.out]; simp, rfl⟩
      · go_wp2
        go_ret
        exact ⟨rfl, rfl⟩
    · go_wp2
      go_ret
      exact ⟨rfl, rfl⟩
  · have hd20 : decide (a.size ≤ 1048576 ∧ b.size ≤ 1048576 ∧ a.size + b.size ≤ 1048576) = false := by simp only [h20, decide_false]
    go_wp2
    go_ret
    exact ⟨rfl, rfl⟩
end Go.Proofs.Qxb6634823a
