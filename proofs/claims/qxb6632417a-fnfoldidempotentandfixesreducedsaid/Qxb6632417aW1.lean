/-
  THE WALKS (1): zzPWord, zzGeP, zzDouble.
-/
import Derived.Test.Qxb6632417aBase
namespace Go.Proofs.Qxb6632417a
open Go.RowKit

set_option maxHeartbeats 400000 in
theorem pword_any (k : Nat) (w : World) :
    Calls Try.prog 14 #[.int .i64 k] w fun e w' => e = .returned (.int .u64 (pw k)) ∧ w' = w := by
  by_cases h7 : k = 7
  · subst h7
    go_enter Try.func14, Try.ntmps14
    go_wp2
    go_ret
    exact ⟨rfl, rfl⟩
  · by_cases h3 : k = 3
    · subst h3
      go_enter Try.func14, Try.ntmps14
      go_wp2
      go_ret
      exact ⟨rfl, rfl⟩
    · have e7 : ((k : Int) == 7) = false := by simp; omega
      have e3 : ((k : Int) == 3) = false := by simp; omega
      have hp : pw k = 18446744073709551615 := by simp [pw, h7, h3]
      rw [hp]; clear hp
      go_enter Try.func14, Try.ntmps14
      go_wp2
      go_ret
      exact ⟨rfl, rfl⟩

set_option maxHeartbeats 400000 in
theorem gep_any (g : Nat → Int) (hw : Word8 g) (w : World) :
    Calls Try.prog 10 #[.agg (C8 g)] w fun e w' => e = .returned (.bool (decide (PP ≤ V8 g))) ∧ Below w.heap.size w w' := by
  have hrow : Row8 25 (w.alloc (.cells (C8 g) 25)) w.heap.size g := heap_alloc_new _ _
  go_enter Try.func10, Try.ntmps10
  go_wp2
  go_loop [3] (fun i => (i = .int .i64 (-1) ∧ ∀ j, j < 8 → g j = pw j) ∨ ∃ m : Nat, m < 8 ∧ i = .int .i64 m ∧ ∀ j, m < j → j < 8 → g j = pw j) (fun i => (intOf i + 1).toNat)
  case atStart => exact Or.inr ⟨7, by omega, rfl, fun j h1 h2 => by omega⟩
  case round =>
    rcases hrel with ⟨rfl, he⟩ | ⟨m, hm, rfl, he⟩
    · have hge := eq_all g he
      clear he
      go_wp2
      go_ret
      refine ⟨by simp, ?_⟩
      go_grown
    · have H1 : Hid (∀ j, m < j → j < 8 → g j = pw j) := he
      clear he
      have hc := hrow.cell m hm
      go_wp2_with (go_at_call 14; refine (pword_any _ _).mono ?_; rintro e w' ⟨rfl, rfl⟩)
      · have hge := ge_at g hw m hm H1.out (by assumption)
        go_ret
        refine ⟨by simp [hge], ?_⟩
        go_grown
      · have hlt := lt_at g hw m hm H1.out (by assumption)
        go_ret
        refine ⟨by simp [hlt], ?_⟩
        go_grown
      · have heq : g m = pw m := by omega
        have he := H1.out
        refine ⟨?_, by simp [intOf]⟩
        rcases m with _ | m
        · refine Or.inl ⟨rfl, fun j hj => ?_⟩
          rcases j with _ | j
          · exact heq
          · exact he _ (by omega) hj
        · refine Or.inr ⟨m, by omega, by go_num, fun j h1 h2 => ?_⟩
          by_cases e : j = m + 1
          · rw [e]; exact heq
          · exact he j (by omega) h2

set_option maxHeartbeats 400000 in
theorem double_any (g : Nat → Int) (hw : Word8 g) (w : World) :
    Calls Try.prog 9 #[.agg (C8 g)] w fun e w' => ∃ g' : Nat → Int, e = .returned (.agg (C8 g')) ∧ Word8 g' ∧ (V8 g < PP → V8 g' = 2 * V8 g) ∧ Below w.heap.size w w' := by
  go_enter Try.func9, Try.ntmps9
  go_wp2
  go_loopw [3] (fun i wr => ∃ g1 : Nat → Int, Word8 g1 ∧ wr.heap.size = w.heap.size + 2 ∧ Below w.heap.size w wr ∧ Row8 25 wr w.heap.size g1 ∧ Row8 25 wr (w.heap.size + 1) (fun _ => 0) ∧
      ((i = .int .i64 0 ∧ g1 0 = g 0 ∧ ∀ j, 0 < j → j < 8 → g1 j = dbl g j) ∨ ∃ m : Nat, m < 7 ∧ i = .int .i64 (m + 1) ∧ (∀ j, j ≤ m + 1 → g1 j = g j) ∧ ∀ j, m + 1 < j → j < 8 → g1 j = dbl g j)) (fun i _ => (intOf i).toNat)
  case atStart =>
    refine ⟨g, hw, by simp, by go_grown, heap_alloc2_old _ _ _, heap_alloc2_new _ _ _, Or.inr ⟨6, by omega, rfl, fun j _ => rfl, fun j h1 h2 => by omega⟩⟩
  case round =>
    obtain ⟨g1, hw1, hsz, hb, hr, hr0, hrel⟩ := hrel
    rcases hrel with ⟨rfl, he, hd⟩ | ⟨m, hm, rfl, he, hd⟩
    · have H1 := hide he; clear he
      have H2 := hide hd; clear hd
      have hc := hr.cell 0 (by omega)
      have hf := hr.frozen 0
      have hw0 := hw 0 (by omega)
      have hr' := hr.set 0 (by omega) (IntKind.u64.wrap (g1 0 * 2))
      have hr0' := hr0.setOther ⟨w.heap.size, 0, none⟩ (.int .u64 (IntKind.u64.wrap (g1 0 * 2))) (by simp)
      go_wp2_with (first
        | (refine wpList_load_row rfl 25 _ rfl w.heap.size rfl 25 _ (0, 0) _ hr' Try.underlying25 rfl (info25 _) ?_)
        | (refine wpList_store_row rfl 25 _ _ rfl (w.heap.size + 1) _ rfl rfl 25 _ hr0' (info25 _) rfl (one8 _) ?_))
      have hr2 : Row8 25 ((wr.setCell ⟨w.heap.size, 0, none⟩ (.int .u64 (IntKind.u64.wrap (g1 0 * 2)))).setRow (w.heap.size + 1) (C8 (upd g1 0 (IntKind.u64.wrap (g1 0 * 2))))) (w.heap.size + 1) (upd g1 0 (IntKind.u64.wrap (g1 0 * 2))) := hr0'.row
      have hx : ∀ j, j < 8 → upd g1 0 (IntKind.u64.wrap (g1 0 * 2)) j = dbl g j := by
        intro j hj
        rcases j with _ | j
        · rw [upd_same, H1.out, IntKind.wrap_u64]; rfl
        · rw [upd_other _ _ _ _ (by omega)]; exact H2.out _ (by omega) hj
      refine bodyPost_ret (results_cell_row Try.results9 _ _ (w.heap.size + 1) 25 _ (0, 0) _ rfl hr2 Try.underlying25 rfl (info25 _)) rfl ?_
      refine ⟨_, rfl, ?_, dbl_val g _ hw hx, ?_⟩
      · intro j hj; rw [hx j hj]; exact dbl_word g hw j hj
      · exact below_setRow (hb.setCell (by simp) _) (by omega) _
    · have H1 := hide he; clear he
      have H2 := hide hd; clear hd
      have hc := hr.cell (m + 1) (by omega)
      have hc' := hr.cell m (by omega)
      have hf := hr.frozen (m + 1)
      go_wp2
      go_region
      go_wp2
      have hv : bits BinOp.or IntKind.u64 (IntKind.u64.wrap (g1 (m + 1) * 2)) (g1 m / 9223372036854775808) = dbl g (m + 1) := by
        have a1 := hw m (by omega); have a2 := hw (m + 1) (by omega)
        rw [H1.out (m + 1) (by omega), H1.out m (by omega), IntKind.wrap_u64, or_join _ _ (by omega) (by omega) (by omega) (by omega) (by omega)]
        rfl
      rw [hv]
      have hdw := dbl_word g hw (m + 1) (by omega)
      refine ⟨⟨upd g1 (m + 1) (dbl g (m + 1)), hw1.upd _ _ hdw.1 hdw.2, by simpa using hsz, (hb.setCell (by simp) _).drew, (hr.set _ (by omega) _).drew, (hr0.setOther _ _ (by simp)).drew, ?_⟩, by simp [intOf]⟩
      rcases m with _ | m
      · refine Or.inl ⟨rfl, ?_, fun j h1 h2 => ?_⟩
        · rw [upd_other _ _ _ _ (by omega)]; exact H1.out 0 (by omega)
        · by_cases e : j = 0 + 1
          · rw [e, upd_same]
          · rw [upd_other _ _ _ _ e]; exact H2.out j (by omega) h2
      · refine Or.inr ⟨m, by omega, by go_num, fun j h1 => ?_, fun j h1 h2 => ?_⟩
        · rw [upd_other _ _ _ _ (by omega)]; exact H1.out j (by omega)
        · by_cases e : j = m + 1 + 1
          · rw [e, upd_same]
          · rw [upd_other _ _ _ _ e]; exact H2.out j (by omega) h2
end Go.Proofs.Qxb6632417a
