/-
  THE WALKS (2): zzSubP.
-/
import Derived.Test.Qxb6632417aW1
namespace Go.Proofs.Qxb6632417a
open Go.RowKit

theorem pw_bound (k : Nat) : 0 ≤ pw k ∧ pw k ≤ 18446744073709551615 := by
  unfold pw; split
  · omega
  · split <;> omega

/-- A round of zzSubP, shut. -/
theorem subp_close (g g1 : Nat → Int) (w wr : World) (k : Nat) (b v nb : Int) (hlt : k < 8) (hw1 : Word8 g1) (hsz : wr.heap.size = w.heap.size + 2) (hb : Below w.heap.size w wr)
    (hr : Row8 25 wr w.heap.size g1) (hr0 : Row8 25 wr (w.heap.size + 1) (fun _ => 0)) (he : ∀ j, k ≤ j → g1 j = g j) (hi : V8 g1 = V8 g - PT k + b * BK k)
    (hn : nb = 0 ∨ nb = 1) (hv0 : 0 ≤ v) (hv1 : v ≤ 18446744073709551615) (hv : v = g1 k - pw k - b + nb * 18446744073709551616) :
    ∃ g1 : Nat → Int, Word8 g1 ∧ (wr.setCell ⟨w.heap.size, k, none⟩ (.int .u64 v)).heap.size = w.heap.size + 2 ∧ Below w.heap.size w (wr.setCell ⟨w.heap.size, k, none⟩ (.int .u64 v)) ∧
      Row8 25 (wr.setCell ⟨w.heap.size, k, none⟩ (.int .u64 v)) w.heap.size g1 ∧ Row8 25 (wr.setCell ⟨w.heap.size, k, none⟩ (.int .u64 v)) (w.heap.size + 1) (fun _ => 0) ∧
      ∃ (k' : Nat) (b : Int), k' ≤ 8 ∧ (b = 0 ∨ b = 1) ∧ Value.int .u64 nb = .int .u64 b ∧ Value.int .i64 (k + 1) = .int .i64 k' ∧ (∀ j, k' ≤ j → g1 j = g j) ∧ V8 g1 = V8 g - PT k' + b * BK k' := by
  refine ⟨upd g1 k v, hw1.upd _ _ hv0 hv1, by simpa using hsz, hb.setCell (by simp) _, hr.set _ hlt _, hr0.setOther _ _ (by simp), k + 1, nb, by omega, hn, rfl, by go_num, fun j hj => ?_, ?_⟩
  · rw [upd_other _ _ _ _ (by omega)]; exact he j (by omega)
  · exact sub_step g g1 k hlt b nb v (he k (by omega)) hi (by rw [hv, he k (by omega)])

set_option maxHeartbeats 800000 in
theorem subp_any (g : Nat → Int) (hw : Word8 g) (w : World) :
    Calls Try.prog 11 #[.agg (C8 g)] w fun e w' => ∃ g' : Nat → Int, e = .returned (.agg (C8 g')) ∧ Word8 g' ∧ (PP ≤ V8 g → V8 g' = V8 g - PP) ∧ Below w.heap.size w w' := by
  go_enter Try.func11, Try.ntmps11
  go_wp2
  go_loopw [3, 4] (fun bo i wr => ∃ g1 : Nat → Int, Word8 g1 ∧ wr.heap.size = w.heap.size + 2 ∧ Below w.heap.size w wr ∧ Row8 25 wr w.heap.size g1 ∧ Row8 25 wr (w.heap.size + 1) (fun _ => 0) ∧
      ∃ (k : Nat) (b : Int), k ≤ 8 ∧ (b = 0 ∨ b = 1) ∧ bo = .int .u64 b ∧ i = .int .i64 k ∧ (∀ j, k ≤ j → g1 j = g j) ∧ V8 g1 = V8 g - PT k + b * BK k) (fun _ i _ => (8 - intOf i).toNat)
  case atStart =>
    refine ⟨g, hw, by simp, by go_grown, heap_alloc2_old _ _ _, heap_alloc2_new _ _ _, 0, 0, by omega, Or.inl rfl, rfl, rfl, fun j _ => rfl, by simp [PT]⟩
  case round =>
    obtain ⟨g1, hw1, hsz, hb, hr, hr0, k, b, hk, hb01, rfl, rfl, he, hi⟩ := hrel
    have H1 := hide he; clear he
    have H2 := hide hi; clear hi
    have H3 := hide hb01; clear hb01
    by_cases hlt : k < 8
    · have hc := hr.cell k hlt
      have hf := hr.frozen k
      have hpb := pw_bound k
      have hgb := hw1 k hlt
      obtain ⟨hb0, hb1⟩ : 0 ≤ b ∧ b ≤ 1 := by rcases H3.out with h | h <;> omega
      by_cases c1 : g1 k < pw k
      · go_wp2_with (go_at_call 14; refine (pword_any _ _).mono ?_; rintro e w' ⟨rfl, rfl⟩)
        refine ⟨subp_close g g1 w _ k b _ 1 hlt hw1 hsz hb hr hr0 H1.out H2.out (Or.inr rfl) ?_ ?_ ?_, by simp [intOf]; omega⟩ <;> (simp only [IntKind.wrap_u64]; omega)
      · go_wp2_with (go_at_call 14; refine (pword_any _ _).mono ?_; rintro e w' ⟨rfl, rfl⟩)
        · have e1 : b = 1 := by simpa using ‹(b == 1) = true›
          refine ⟨subp_close g g1 w _ k b _ 1 hlt hw1 hsz hb hr hr0 H1.out H2.out (Or.inr rfl) ?_ ?_ ?_, by simp [intOf]; omega⟩ <;> (simp only [IntKind.wrap_u64]; omega)
        · have e1 : ¬ b = 1 := by simpa using ‹(b == 1) = false›
          refine ⟨subp_close g g1 w _ k b _ 0 hlt hw1 hsz hb hr hr0 H1.out H2.out (Or.inl rfl) ?_ ?_ ?_, by simp [intOf]; omega⟩ <;> (simp only [IntKind.wrap_u64]; omega)
        · refine ⟨subp_close g g1 w _ k b _ 0 hlt hw1 hsz hb hr hr0 H1.out H2.out (Or.inl rfl) ?_ ?_ ?_, by simp [intOf]; omega⟩ <;> omega
    · have hk8 : k = 8 := by omega
      subst hk8
      have hr2 : Row8 25 (wr.setRow (w.heap.size + 1) (C8 g1)) (w.heap.size + 1) g1 := hr0.row
      go_wp2_with (first
        | (refine wpList_load_row rfl 25 _ rfl w.heap.size rfl 25 _ (0, 0) _ hr Try.underlying25 rfl (info25 _) ?_)
        | (refine wpList_store_row rfl 25 _ _ rfl (w.heap.size + 1) _ rfl rfl 25 _ hr0 (info25 _) rfl (one8 _) ?_))
      refine bodyPost_ret (results_cell_row Try.results11 _ _ (w.heap.size + 1) 25 _ (0, 0) _ rfl hr2 Try.underlying25 rfl (info25 _)) rfl ?_
      exact ⟨_, rfl, hw1, sub_last g g1 hw hw1 b H3.out H2.out, below_setRow hb (by omega) _⟩
end Go.Proofs.Qxb6632417a
