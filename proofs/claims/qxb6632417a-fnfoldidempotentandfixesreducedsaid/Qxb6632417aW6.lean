/-
  THE WALKS (6): fold, ZZfold.
-/
import Derived.Test.Qxb6632417aW5
namespace Go.Proofs.Qxb6632417a
open Go.RowKit

/-- Of what w held nothing has turned but block b. -/
structure ButB (b : Nat) (w w' : World) : Prop where
  os : w'.os = w.os
  tape : w'.tape = w.tape
  output : w'.output = w.output
  size : w.heap.size ≤ w'.heap.size
  block : ∀ k, k < w.heap.size → k ≠ b → w'.heap[k]? = w.heap[k]?

theorem ButB.refl (b : Nat) (w : World) : ButB b w w := ⟨rfl, rfl, rfl, Nat.le_refl _, fun _ _ _ => rfl⟩
theorem ButB.alloc {b : Nat} {w w' : World} (h : ButB b w w') (o : Obj) : ButB b w (w'.alloc o) :=
  ⟨h.os, h.tape, h.output, Nat.le_trans h.size (by simp), fun k hk hb => (Below.heap_alloc _ _ _ (by have := h.size; omega)).trans (h.block k hk hb)⟩
theorem ButB.setCell {b : Nat} {w w' : World} (h : ButB b w w') (a : Addr) (v : Value) (ha : a.block = b ∨ w.heap.size ≤ a.block) : ButB b w (w'.setCell a v) :=
  ⟨h.os, h.tape, h.output, Nat.le_trans h.size (by simp [World.setCell]), fun k hk hb => (Below.heap_setCell _ _ _ _ (by rcases ha with e | e <;> omega)).trans (h.block k hk hb)⟩
theorem ButB.drew {b : Nat} {w w' : World} (h : ButB b w w') : ButB b w w'.drew := ⟨h.os, h.tape, h.output, h.size, h.block⟩
theorem ButB.below {b : Nat} {w w' w'' : World} (h : ButB b w w') (hb : Below w'.heap.size w' w'') : ButB b w w'' :=
  ⟨hb.os.trans h.os, hb.tape.trans h.tape, hb.output.trans h.output, Nat.le_trans h.size hb.size, fun k hk hk' => (hb.block k (by have := h.size; omega)).trans (h.block k hk hk')⟩

theorem Row16.congr {w : World} {b : Nat} {g g' : Nat → Int} (h : Row16 w b g) (hg : ∀ j, j < 16 → g j = g' j) : Row16 w b g' := by
  unfold Row16 at *
  rw [h]
  simp only [C16]
  rw [hg 0 (by omega), hg 1 (by omega), hg 2 (by omega), hg 3 (by omega), hg 4 (by omega), hg 5 (by omega), hg 6 (by omega), hg 7 (by omega)]
  rw [hg 8 (by omega), hg 9 (by omega), hg 10 (by omega), hg 11 (by omega), hg 12 (by omega), hg 13 (by omega), hg 14 (by omega), hg 15 (by omega)]
theorem Row16.but {w w' : World} {b c : Nat} {g : Nat → Int} (h : Row16 w c g) (hb : ButB b w w') (hc : c ≠ b) : Row16 w' c g := (hb.block c h.lt hc).trans h
theorem Row8.but {t : TypeId} {w w' : World} {b c : Nat} {g : Nat → Int} (h : Row8 t w c g) (hb : ButB b w w') (hc : c ≠ b) : Row8 t w' c g := (hb.block c h.lt hc).trans h

set_option maxHeartbeats 800000 in
theorem fold_any (t : Nat → Int) (b : Nat) (w : World) (hrow : Row16 w b t) (hd : Dom t) :
    Calls Try.prog 8 #[.pointer (some ⟨b, 0, none⟩)] w fun e w' => ∃ r t' : Nat → Int, e = .returned (.agg (C8 r)) ∧ FoldIs t t' r ∧ Row16 w' b t' ∧ ButB b w w' := by
  have hbl := hrow.lt
  go_enter Try.func8, Try.ntmps8
  go_wp2
  go_loopw [3] (fun i wr => ∃ (h : Nat → Int), ButB b w wr ∧ wr.heap.size = w.heap.size + 1 ∧ Row16 wr b h ∧ Row8 30 wr w.heap.size (fun _ => 0) ∧
      ((i = .int .i64 7 ∧ ∀ j, j < 16 → h j = F t 7 j) ∨ ∃ m : Nat, m < 8 ∧ i = .int .i64 (m + 8) ∧ ∀ j, j < 16 → h j = F t (m + 8) j)) (fun i _ => (intOf i).toNat)
  case atStart =>
    refine ⟨t, (ButB.refl _ _).alloc _, by simp, ?_, heap_alloc_new _ _, Or.inr ⟨7, by omega, rfl, fun j hj => (F_start t j hj).symm⟩⟩
    exact (Below.heap_alloc _ _ _ hbl).trans hrow
  case round =>
    obtain ⟨h, hb, hsz, hr, hr0, hrel⟩ := hrel
    rcases hrel with ⟨rfl, hF⟩ | ⟨m, hm, rfl, hF⟩
    · have HF := hide hF; clear hF
      have c0 := hr.cell 0 (by omega)
      have c1 := hr.cell 1 (by omega)
      have c2 := hr.cell 2 (by omega)
      have c3 := hr.cell 3 (by omega)
      have c4 := hr.cell 4 (by omega)
      have c5 := hr.cell 5 (by omega)
      have c6 := hr.cell 6 (by omega)
      have c7 := hr.cell 7 (by omega)
      have harr : ∀ w, (Instr.arrayAt 30 (.slice (some ⟨b, 0, none⟩) 8 16)).run Try.prog w = .ok (.pointer (some ⟨b, 0, none⟩)) w := fun w => run_arrayAt w 30 23 8 _ 8 16 Try.underlying30 (by omega)
      go_wp2_with (fail)
      refine (carry_any h (fun j hj => by rw [HF.out j (by omega)]; exact F_bound t hd 7 j (by omega)) _).mono ?_
      rintro e w1 ⟨r, rfl, hc, hb1⟩
      have hr1 := hr.below hb1 hr.lt
      have hr01 := hr0.below hb1 hr0.lt
      have hbb := hb.below hb1
      have hr2 : Row8 30 (w1.setRow w.heap.size (C8 r)) w.heap.size r := hr01.row
      clear c0 c1 c2 c3 c4 c5 c6 c7 harr
      go_wp2_with (show wpList _ _ _ (Oper.mk _ (.store 30 _ _) _ _ _ _ :: _) _ _; refine wpList_store_row rfl 30 _ _ rfl w.heap.size _ rfl rfl 30 _ hr01 (info30 _) rfl (one8 _) ?_)
      refine bodyPost_ret (results_cell_row Try.results8 _ _ w.heap.size 30 _ (0, 0) _ rfl hr2 Try.underlying30 rfl (info30 _)) rfl ?_
      refine ⟨r, h, rfl, FoldIs.of t h r hd HF.out hc.bd hc.bd56 hc.val hc.fix, hr1.rowOther _ (by omega), ?_⟩
      exact ⟨hbb.os, hbb.tape, hbb.output, by simpa using hbb.size, fun k hk hkb => (setRow_other _ _ _ _ (by omega)).trans (hbb.block k hk hkb)⟩
    · have HF := hide hF; clear hF
      have c1 := hr.cell (m + 8) (by omega)
      have c2 := hr.cell (m + 4) (by omega)
      have c3 := hr.cell m (by omega)
      have f2 := hr.frozen (m + 4)
      have f3 := hr.frozen m
      have b1 : 0 ≤ h (m + 8) ∧ h (m + 8) < 4611686018427387904 := by rw [HF.out _ (by omega)]; exact F_bound t hd _ _ (by omega)
      have b2 : 0 ≤ h (m + 4) ∧ h (m + 4) < 4611686018427387904 := by rw [HF.out _ (by omega)]; exact F_bound t hd _ _ (by omega)
      have b3 : 0 ≤ h m ∧ h m < 4611686018427387904 := by rw [HF.out _ (by omega)]; exact F_bound t hd _ _ (by omega)
      go_wp2
      go_region
      go_wp2
      go_region
      go_wp2
      refine ⟨⟨_, ((hb.setCell _ _ (Or.inl rfl)).setCell _ _ (Or.inl rfl)).drew.drew, by simpa using hsz, ((hr.set _ (by omega) _).set _ (by omega) _).drew.drew, ((hr0.setOther _ _ (by simp; omega)).setOther _ _ (by simp; omega)).drew.drew, ?_⟩, by simp [intOf]; omega⟩
      rcases m with _ | m
      · exact Or.inl ⟨rfl, fun j hj => F_step t h 0 (by omega) HF.out j hj⟩
      · exact Or.inr ⟨m, by omega, by go_num, fun j hj => F_step t h (m + 1) (by omega) HF.out j hj⟩

set_option maxHeartbeats 800000 in
theorem zzfold_any (t : Nat → Int) (b : Nat) (w : World) (hrow : Row16 w b t) (hd : Dom t) :
    Calls Try.prog 5 #[.pointer (some ⟨b, 0, none⟩)] w fun e w' => ∃ r t' : Nat → Int, e = .returned (.agg (C8 r)) ∧ FoldIs t t' r ∧ Row16 w' b t' ∧ ButB b w w' := by
  have hbl := hrow.lt
  have hrow1 : Row16 (w.alloc (.cells (C8 (fun _ => 0)) 25)) b t := (Below.heap_alloc _ _ _ hbl).trans hrow
  have hr0 : Row8 25 (w.alloc (.cells (C8 (fun _ => 0)) 25)) w.heap.size (fun _ => 0) := heap_alloc_new _ _
  go_enter Try.func5, Try.ntmps5
  go_wp2_with fail
  refine (fold_any t b _ hrow1 hd).mono ?_
  rintro e w1 ⟨r, t', rfl, hF, hr1, hb1⟩
  have hr01 := hr0.but hb1 (by omega)
  have hr2 : Row8 25 (w1.setRow w.heap.size (C8 r)) w.heap.size r := hr01.row
  go_wp2_with (show wpList _ _ _ (Oper.mk _ (.store 25 _ _) _ _ _ _ :: _) _ _; refine wpList_store_row rfl 25 _ _ rfl w.heap.size _ rfl rfl 25 _ hr01 (info25 _) rfl (one8 _) ?_)
  refine bodyPost_ret (results_cell_row Try.results5 _ _ w.heap.size 25 _ (0, 0) _ rfl hr2 Try.underlying25 rfl (info25 _)) rfl ?_
  refine ⟨r, t', rfl, hF, hr1.rowOther _ (by omega), hb1.os, hb1.tape, hb1.output, ?_, fun k hk hkb => ?_⟩
  · have := hb1.size; simp at this ⊢; omega
  · rw [setRow_other _ _ _ _ (by omega), hb1.block k (by simp; omega) hkb]
    exact Below.heap_alloc _ _ _ hk
end Go.Proofs.Qxb6632417a
