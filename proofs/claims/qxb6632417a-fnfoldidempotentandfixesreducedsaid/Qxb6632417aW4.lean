/-
  THE WALKS (4): zzModP.
-/
import Derived.Test.Qxb6632417aW3
import Derived.Deep.RegionWith
namespace Go.Proofs.Qxb6632417a
open Go.RowKit

/-- zzModP's memory: the limbs, the result's variable, the accumulator. -/
structure ModMem (w : World) (l acc : Nat → Int) (wr : World) : Prop where
  below : Below w.heap.size w wr
  size : w.heap.size + 3 ≤ wr.heap.size
  limbs : Row16 wr w.heap.size l
  out : Row8 25 wr (w.heap.size + 1) (fun _ => 0)
  racc : Row8 25 wr (w.heap.size + 1 + 1) acc
  word : Word8 acc

theorem ModMem.later {w : World} {l acc : Nat → Int} {wr w1 : World} (h : ModMem w l acc wr) (hb : Below wr.heap.size wr w1) : ModMem w l acc w1 :=
  ⟨h.below.trans (hb.mono (by have := h.below.size; omega)), by have := hb.size; have := h.size; omega, h.limbs.below hb h.limbs.lt, h.out.below hb h.out.lt, h.racc.below hb h.racc.lt, h.word⟩
theorem ModMem.put {w : World} {l acc acc' : Nat → Int} {wr : World} (h : ModMem w l acc wr) (hw : Word8 acc') : ModMem w l acc' (wr.setRow (w.heap.size + 1 + 1) (C8 acc')) :=
  ⟨below_setRow h.below (by omega) _, by simpa using h.size, h.limbs.rowOther _ (by omega), h.out.rowOther _ (by omega), h.racc.row, hw⟩
theorem ModMem.drew {w : World} {l acc : Nat → Int} {wr : World} (h : ModMem w l acc wr) : ModMem w l acc wr.drew :=
  ⟨h.below.drew, h.size, h.limbs.drew, h.out.drew, h.racc.drew, h.word⟩

theorem ModMem.one {w : World} {l acc : Nat → Int} {wr : World} (h : ModMem w l acc wr) (m : Nat) (hm : m < 8) (v : Int) (h0 : 0 ≤ v) (h1 : v ≤ 18446744073709551615) :
    ModMem w l (upd acc m v) (wr.setCell ⟨w.heap.size + 1 + 1, m, none⟩ (.int .u64 v)) :=
  ⟨h.below.setCell (show w.heap.size ≤ w.heap.size + 1 + 1 by omega) _, by simpa using h.size, h.limbs.setOther _ _ (show w.heap.size ≠ w.heap.size + 1 + 1 by omega), h.out.setOther _ _ (show w.heap.size + 1 ≠ w.heap.size + 1 + 1 by omega), h.racc.set m hm v, h.word.upd m v h0 h1⟩
theorem ModMem.congr {w : World} {l acc acc' : Nat → Int} {wr : World} (h : ModMem w l acc wr) (he : ∀ j, j < 8 → acc j = acc' j) : ModMem w l acc' wr :=
  ⟨h.below, h.size, h.limbs, h.out, h.racc.congr he, fun j hj => by rw [← he j hj]; exact h.word j hj⟩
/-- The accumulator stored word by word. -/
theorem ModMem.put8 {w : World} {l acc : Nat → Int} {wr : World} (h : ModMem w l acc wr) (g : Nat → Int) (hg : Word8 g) :
    ModMem w l g ((((((((wr.setCell ⟨w.heap.size + 1 + 1, 0, none⟩ (.int .u64 (g 0))).setCell ⟨w.heap.size + 1 + 1, 1, none⟩ (.int .u64 (g 1))).setCell ⟨w.heap.size + 1 + 1, 2, none⟩ (.int .u64 (g 2))).setCell ⟨w.heap.size + 1 + 1, 3, none⟩ (.int .u64 (g 3))).setCell
      ⟨w.heap.size + 1 + 1, 4, none⟩ (.int .u64 (g 4))).setCell ⟨w.heap.size + 1 + 1, 5, none⟩ (.int .u64 (g 5))).setCell ⟨w.heap.size + 1 + 1, 6, none⟩ (.int .u64 (g 6))).setCell ⟨w.heap.size + 1 + 1, 7, none⟩ (.int .u64 (g 7))) := by
  refine ((((((((h.one 0 (by omega) _ (hg 0 (by omega)).1 (hg 0 (by omega)).2).one 1 (by omega) _ (hg 1 (by omega)).1 (hg 1 (by omega)).2).one 2 (by omega) _ (hg 2 (by omega)).1 (hg 2 (by omega)).2).one 3 (by omega) _ (hg 3 (by omega)).1 (hg 3 (by omega)).2).one
    4 (by omega) _ (hg 4 (by omega)).1 (hg 4 (by omega)).2).one 5 (by omega) _ (hg 5 (by omega)).1 (hg 5 (by omega)).2).one 6 (by omega) _ (hg 6 (by omega)).1 (hg 6 (by omega)).2).one 7 (by omega) _ (hg 7 (by omega)).1 (hg 7 (by omega)).2).congr ?_
  intro j hj
  refine lt8 (P := fun j => upd (upd (upd (upd (upd (upd (upd (upd acc 0 (g 0)) 1 (g 1)) 2 (g 2)) 3 (g 3)) 4 (g 4)) 5 (g 5)) 6 (g 6)) 7 (g 7) j = g j) ?_ ?_ ?_ ?_ ?_ ?_ ?_ ?_ j hj <;> simp [upd]

theorem start3 (w : World) (A B C : Obj) : (((w.alloc A).alloc B).alloc C).heap[w.heap.size]? = some A ∧ (((w.alloc A).alloc B).alloc C).heap[w.heap.size + 1]? = some B ∧ (((w.alloc A).alloc B).alloc C).heap[w.heap.size + 1 + 1]? = some C := by
  refine ⟨?_, ?_, ?_⟩ <;> show (((w.heap.push A).push B).push C)[_]? = _ <;> rw [Array.getElem?_push]
  · rw [if_neg (by simp; omega), Array.getElem?_push, if_neg (by simp), Array.getElem?_push, if_pos rfl]
  · rw [if_neg (by simp), Array.getElem?_push, if_pos (by simp)]
  · rw [if_pos (by simp)]

/-- At the head of an outer round. -/
def OutRel (w : World) (l : Nat → Int) (n : Nat) (i : Value) (wr : World) : Prop :=
  ∃ acc, ModMem w l acc wr ∧ ((i = .int .i64 (-1) ∧ V8 acc = Hz l n 0 % PP) ∨ ∃ k : Nat, k < n ∧ i = .int .i64 k ∧ V8 acc = Hz l (n - (k + 1)) (k + 1) % PP)
/-- At the head of an inner round. -/
def InRel (w : World) (l : Nat → Int) (A : Int) (i : Value) (wr : World) : Prop :=
  ∃ acc, ModMem w l acc wr ∧ ∃ j : Nat, j ≤ 56 ∧ i = .int .i64 j ∧ V8 acc = (A * P2 j) % PP

theorem V8_zero : V8 (fun _ => 0) = 0 := by decide +kernel

set_option maxHeartbeats 800000 in
theorem modp_any (l : Nat → Int) (n : Nat) (hl : ∀ j, j < 16 → 0 ≤ l j ∧ l j ≤ 18446744073709551615) (hn0 : 1 ≤ n) (hn : n ≤ 16) (w : World) :
    Calls Try.prog 6 #[.agg (C16 l), .int .i64 n] w fun e w' => ∃ g' : Nat → Int, e = .returned (.agg (C8 g')) ∧ Word8 g' ∧ V8 g' = Hz l n 0 % PP ∧ Below w.heap.size w w' := by
  go_enter Try.func6, Try.ntmps6
  go_wp2
  go_loopw [6] (OutRel w l n) (fun i _ => (intOf i + 1).toNat)
  case atStart =>
    refine ⟨fun _ => 0, ⟨by go_grown, by simp, ?_, ?_, ?_, fun j _ => by simp⟩, Or.inr ⟨n - 1, by omega, ?_, ?_⟩⟩
    · exact (start3 w _ _ _).1
    · exact (start3 w _ _ _).2.1
    · exact (start3 w _ _ _).2.2
    · congr 1; omega
    · rw [show n - (n - 1 + 1) = 0 from by omega, V8_zero]; rfl
  case round =>
    obtain ⟨acc, hm, hrel⟩ := hrel
    rcases hrel with ⟨rfl, hv⟩ | ⟨k, hk, rfl, hv⟩
    · have HV := hide hv; clear hv
      have hra := hm.racc
      have hro := hm.out
      have hr2 : Row8 25 (wr.setRow (w.heap.size + 1) (C8 acc)) (w.heap.size + 1) acc := hro.row
      go_wp2_with (first
        | (refine wpList_load_row rfl 25 _ rfl (w.heap.size + 1 + 1) rfl 25 _ (0, 0) _ hra Try.underlying25 rfl (info25 _) ?_)
        | (refine wpList_store_row rfl 25 _ _ rfl (w.heap.size + 1) _ rfl rfl 25 _ hro (info25 _) rfl (one8 _) ?_))
      refine bodyPost_ret (results_cell_row Try.results6 _ _ (w.heap.size + 1) 25 _ (0, 0) _ rfl hr2 Try.underlying25 rfl (info25 _)) rfl ?_
      exact ⟨_, rfl, hm.word, HV.out, below_setRow hm.below (by omega) _⟩
    · have HV := hide hv; clear hv
      go_wp2
      go_loopw [7] (InRel w l (V8 acc)) (fun i _ => (56 - intOf i).toNat)
      case atStart =>
        refine ⟨acc, hm, 0, by omega, rfl, ?_⟩
        have := V8_mod_lt _ _ HV.out
        simp only [P2, Int.mul_one]
        rw [Int.emod_eq_of_lt (by omega) (by omega)]
      case round =>
        obtain ⟨acc1, hm1, j, hj, rfl, hv1⟩ := hrel
        have HV1 := hide hv1; clear hv1
        have HLT := hide (V8_mod_lt _ _ HV1.out).2
        by_cases hlt : j < 56
        · have hra := hm1.racc
          go_wp2_with (refine wpList_load_row rfl 25 _ rfl (w.heap.size + 1 + 1) rfl 25 _ (0, 0) _ hra Try.underlying25 rfl (info25 _) ?_)
          refine (double_any acc1 hm1.word _).mono ?_
          rintro e w1 ⟨g1, rfl, hw1, hv1, hb1⟩
          have HV2 := hide (hv1 HLT.out); clear hv1
          have hm2 := hm1.later hb1
          have hr2 := hm2.racc
          have hm3 := hm2.put hw1
          have hr3 := hm3.racc
          go_wp2_with (first
            | (refine wpList_store_row rfl 25 _ _ rfl (w.heap.size + 1 + 1) _ rfl rfl 25 _ hr2 (info25 _) rfl (one8 _) ?_)
            | (refine wpList_load_row rfl 25 _ rfl (w.heap.size + 1 + 1) rfl 25 _ (0, 0) _ hr3 Try.underlying25 rfl (info25 _) ?_))
          by_cases hge : PP ≤ V8 g1
          · refine (gep_any g1 hw1 _).mono ?_
            rintro e w2 ⟨rfl, hb2⟩
            have hm4 := hm3.later hb2
            have hr4 := hm4.racc
            go_wp2_with (refine wpList_load_row rfl 25 _ rfl (w.heap.size + 1 + 1) rfl 25 _ (0, 0) _ hr4 Try.underlying25 rfl (info25 _) ?_)
            refine (subp_any g1 hw1 _).mono ?_
            rintro e w3 ⟨g3, rfl, hw3, hv3, hb3⟩
            have HV3 := hide (hv3 hge); clear hv3
            have hm5 := hm4.later hb3
            have hr5 := hm5.racc
            go_wp2_with (refine wpList_store_row rfl 25 _ _ rfl (w.heap.size + 1 + 1) _ rfl rfl 25 _ hr5 (info25 _) rfl (one8 _) ?_)
            refine ⟨⟨g3, hm5.put hw3, j + 1, by omega, by go_num, ?_⟩, by simp [intOf]; omega⟩
            have e2 := HV2.out
            rw [HV3.out, e2, two_mod_ge _ HLT.out (by omega), HV1.out]
            exact dbl_mod _ _
          · have hge' : V8 g1 < PP := by omega
            refine (gep_any g1 hw1 _).mono ?_
            rintro e w2 ⟨rfl, hb2⟩
            have hm4 := hm3.later hb2
            go_wp2
            refine ⟨⟨g1, hm4, j + 1, by omega, by go_num, ?_⟩, by simp [intOf]; omega⟩
            have e2 := HV2.out
            have e3 := (V8_bound g1 hw1).1
            rw [← dbl_mod, ← HV1.out, ← e2]
            exact mod_lt _ e3 hge'
        · have hj56 : j = 56 := by omega
          subst hj56
          have hra := hm1.racc
          have hc := hm1.limbs.cell k (by omega)
          have c0 := hra.cell 0 (by omega)
          have c1 := hra.cell 1 (by omega)
          have c2 := hra.cell 2 (by omega)
          have c3 := hra.cell 3 (by omega)
          have c4 := hra.cell 4 (by omega)
          have c5 := hra.cell 5 (by omega)
          have c6 := hra.cell 6 (by omega)
          have c7 := hra.cell 7 (by omega)
          have hlk := hl k (by omega)
          go_wp2
          go_region_with (first | (go_at_call 12; refine (addword_any acc1 _ hm1.word hlk.1 hlk.2 HLT.out _).mono ?_; rintro e w1 ⟨g2, rfl, hw2, hv2, hb2⟩; have HV2 := hide hv2; clear hv2; have hm2 := hm1.drew.later hb2; have hr2 := hm2.racc; have f0 := hr2.frozen 0; have f1 := hr2.frozen 1; have f2 := hr2.frozen 2; have f3 := hr2.frozen 3; have f4 := hr2.frozen 4; have f5 := hr2.frozen 5; have f6 := hr2.frozen 6; have f7 := hr2.frozen 7; have d0 := hr2.cell 0 (by omega); have d1 := hr2.cell 1 (by omega); have d2 := hr2.cell 2 (by omega); have d3 := hr2.cell 3 (by omega); have d4 := hr2.cell 4 (by omega); have d5 := hr2.cell 5 (by omega); have d6 := hr2.cell 6 (by omega); have d7 := hr2.cell 7 (by omega)))
          all_goals
            clear c0 c1 c2 c3 c4 c5 c6 c7 d0 d1 d2 d3 d4 d5 d6 d7 f0 f1 f2 f3 f4 f5 f6 f7
            go_wp2
            refine ⟨⟨g2, hm2.put8 g2 hw2, ?_⟩, by simp [intOf]⟩
            have e : V8 g2 = Hz l (n - k) k % PP := by
              rw [HV2.out, HV1.out, HV.out, P2_56, horner_mod]
              rw [show n - k = (n - (k + 1)) + 1 from by omega]
              rfl
            rcases k with _ | k
            · exact Or.inl ⟨rfl, e⟩
            · exact Or.inr ⟨k, by omega, by go_num, e⟩
end Go.Proofs.Qxb6632417a
