/-
  THE WALKS (3): zzAddWord.
-/
import Derived.Test.Qxb6632417aW2
namespace Go.Proofs.Qxb6632417a
open Go.RowKit

/-- What holds at the head of zzAddWord's rounds. -/
def AddRel (w : World) (g : Nat → Int) (x : Int) (c i : Value) (wr : World) : Prop :=
  ∃ g1 : Nat → Int, Word8 g1 ∧ wr.heap.size = w.heap.size + 2 ∧ Below w.heap.size w wr ∧ Row8 25 wr w.heap.size g1 ∧ Row8 25 wr (w.heap.size + 1) (fun _ => 0) ∧
      ∃ (k : Nat) (b : Int), k ≤ 8 ∧ (b = 0 ∨ b = 1) ∧ c = .int .u64 b ∧ i = .int .i64 k ∧ V8 g1 + b * BK k = V8 g + x

/-- A round of zzAddWord, shut. -/
theorem add_close (g g1 : Nat → Int) (x : Int) (w wr : World) (k : Nat) (b v nb : Int) (hlt : k < 8) (hw1 : Word8 g1) (hsz : wr.heap.size = w.heap.size + 2) (hb : Below w.heap.size w wr)
    (hr : Row8 25 wr w.heap.size g1) (hr0 : Row8 25 wr (w.heap.size + 1) (fun _ => 0)) (hi : V8 g1 + b * BK k = V8 g + x)
    (hn : nb = 0 ∨ nb = 1) (hv0 : 0 ≤ v) (hv1 : v ≤ 18446744073709551615) (hv : v = g1 k + b - nb * 18446744073709551616) :
    AddRel w g x (.int .u64 nb) (.int .i64 (k + 1)) (wr.setCell ⟨w.heap.size, k, none⟩ (.int .u64 v)) := by
  refine ⟨upd g1 k v, hw1.upd _ _ hv0 hv1, by simpa using hsz, hb.setCell (by simp) _, hr.set _ hlt _, hr0.setOther _ _ (by simp), k + 1, nb, by omega, hn, rfl, by go_num, ?_⟩
  exact add_step g1 _ k hlt b nb v hi hv

theorem add_start (g : Nat → Int) (x v nb : Int) (w : World) (hw : Word8 g) (hn : nb = 0 ∨ nb = 1) (hv0 : 0 ≤ v) (hv1 : v ≤ 18446744073709551615) (hv : v = g 0 + x - nb * 18446744073709551616) :
    AddRel w g x (.int .u64 nb) (.int .i64 1) ((w.alloc (.cells (C8 (upd g 0 v)) 25)).alloc (.cells (C8 (fun _ => 0)) 25)) := by
  refine ⟨upd g 0 v, hw.upd _ _ hv0 hv1, by simp, by go_grown, heap_alloc2_old _ _ _, heap_alloc2_new _ _ _, 1, nb, by omega, hn, rfl, rfl, ?_⟩
  exact add_step g _ 0 (by omega) x nb v (by simp [BK]) hv

theorem mod_ge (T : Int) (h0 : PP ≤ T) (h1 : T < PP + 18446744073709551616) : T - PP = T % PP := by
  have := PP_big
  rw [← Int.sub_emod_right, Int.emod_eq_of_lt (by omega) (by omega)]
theorem mod_lt (T : Int) (h0 : 0 ≤ T) (h1 : T < PP) : T = T % PP := by
  rw [Int.emod_eq_of_lt (by omega) (by omega)]

set_option maxHeartbeats 800000 in
theorem addword_any (g : Nat → Int) (x : Int) (hw : Word8 g) (hx0 : 0 ≤ x) (hx1 : x ≤ 18446744073709551615) (hg : V8 g < PP) (w : World) :
    Calls Try.prog 12 #[.agg (C8 g), .int .u64 x] w fun e w' => ∃ g' : Nat → Int, e = .returned (.agg (C8 g')) ∧ Word8 g' ∧ V8 g' = (V8 g + x) % PP ∧ Below w.heap.size w w' := by
  have hb0 := hw 0 (by omega)
  have hT0 := (V8_bound g hw).1
  have HG := hide hg; clear hg
  have hst : ∃ nb : Int, (nb = 0 ∨ nb = 1) ∧ IntKind.u64.wrap (g 0 + x) = g 0 + x - nb * 18446744073709551616 ∧ (nb = 1 ↔ IntKind.u64.wrap (g 0 + x) < g 0) := by
    rw [IntKind.wrap_u64]
    by_cases h : g 0 + x < 18446744073709551616
    · exact ⟨0, Or.inl rfl, by omega, by omega⟩
    · exact ⟨1, Or.inr rfl, by omega, by omega⟩
  have hsb : 0 ≤ IntKind.u64.wrap (g 0 + x) ∧ IntKind.u64.wrap (g 0 + x) ≤ 18446744073709551615 := by rw [IntKind.wrap_u64]; omega
  obtain ⟨nb, hn, hv, hiff⟩ := hst
  have HST := add_start g x _ nb w hw hn hsb.1 hsb.2 hv
  clear hv
  have hcc : (nb = 1 ∧ IntKind.u64.wrap (g 0 + x) < g 0) ∨ (nb = 0 ∧ ¬ IntKind.u64.wrap (g 0 + x) < g 0) := by
    rcases hn with h | h
    · exact Or.inr ⟨h, fun h' => by have := hiff.2 h'; omega⟩
    · exact Or.inl ⟨h, hiff.1 h⟩
  clear hiff hn
  rcases hcc with ⟨rfl, hc⟩ | ⟨rfl, hc⟩
  all_goals
    go_enter Try.func12, Try.ntmps12
    go_wp2
    go_loopw [6, 7] (AddRel w g x) (fun _ i _ => (8 - intOf i).toNat)
    case atStart => exact HST
    case round =>
      clear HST
      obtain ⟨g1, hw1, hsz, hb, hr, hr0, k, b, hk, hb01, rfl, rfl, hi⟩ := hrel
      have H2 := hide hi; clear hi
      have H3 := hide hb01; clear hb01
      by_cases hlt : k < 8
      · have hcl := hr.cell k hlt
        have hf := hr.frozen k
        have hgb := hw1 k hlt
        obtain ⟨hb0, hb1⟩ : 0 ≤ b ∧ b ≤ 1 := by rcases H3.out with h | h <;> omega
        go_wp2
        · have hx := ‹IntKind.u64.wrap (g1 k + b) < g1 k›
          simp only [IntKind.wrap_u64] at hx
          refine ⟨add_close g g1 x w _ k b _ 1 hlt hw1 hsz hb hr hr0 H2.out (Or.inr rfl) ?_ ?_ ?_, by simp [intOf]; omega⟩ <;> (simp only [IntKind.wrap_u64]; omega)
        · have hx := ‹g1 k ≤ IntKind.u64.wrap (g1 k + b)›
          simp only [IntKind.wrap_u64] at hx
          refine ⟨add_close g g1 x w _ k b _ 0 hlt hw1 hsz hb hr hr0 H2.out (Or.inl rfl) ?_ ?_ ?_, by simp [intOf]; omega⟩ <;> (simp only [IntKind.wrap_u64]; omega)
      · have hk8 : k = 8 := by omega
        subst hk8
        have hT : V8 g + x < PP + 18446744073709551616 := by have := HG.out; omega
        have HV := hide (add_last g1 hw1 _ b H3.out hT H2.out)
        go_wp2_with (refine wpList_load_row rfl 25 _ rfl w.heap.size rfl 25 _ (0, 0) _ hr Try.underlying25 rfl (info25 _) ?_)
        by_cases hge : PP ≤ V8 g1
        · refine (gep_any _ hw1 _).mono ?_
          rintro e w1 ⟨rfl, hb1⟩
          have hr1 := hr.below hb1 hr.lt
          have hr01 := hr0.below hb1 hr0.lt
          have hbb1 := hb.trans (hb1.mono (by omega))
          go_wp2_with (refine wpList_load_row rfl 25 _ rfl w.heap.size rfl 25 _ (0, 0) _ hr1 Try.underlying25 rfl (info25 _) ?_)
          refine (subp_any _ hw1 _).mono ?_
          rintro e w2 ⟨g2, rfl, hw2, hv2, hb2⟩
          have HV2 := hide (hv2 hge); clear hv2
          have hr2 := hr1.below hb2 hr1.lt
          have hr02 := hr01.below hb2 hr01.lt
          have hbb2 := hbb1.trans (hb2.mono (by have := hbb1.size; omega))
          have hr3 : Row8 25 (w2.setRow w.heap.size (C8 g2)) w.heap.size g2 := hr2.row
          have hr03 : Row8 25 (w2.setRow w.heap.size (C8 g2)) (w.heap.size + 1) (fun _ => 0) := hr02.rowOther _ (by omega)
          have hr04 : Row8 25 ((w2.setRow w.heap.size (C8 g2)).setRow (w.heap.size + 1) (C8 g2)) (w.heap.size + 1) g2 := hr03.row
          go_wp2_with (first
            | (refine wpList_store_row rfl 25 _ _ rfl w.heap.size _ rfl rfl 25 _ hr2 (info25 _) rfl (one8 _) ?_)
            | (refine wpList_load_row rfl 25 _ rfl w.heap.size rfl 25 _ (0, 0) _ hr3 Try.underlying25 rfl (info25 _) ?_)
            | (refine wpList_store_row rfl 25 _ _ rfl (w.heap.size + 1) _ rfl rfl 25 _ hr03 (info25 _) rfl (one8 _) ?_))
          refine bodyPost_ret (results_cell_row Try.results12 _ _ (w.heap.size + 1) 25 _ (0, 0) _ rfl hr04 Try.underlying25 rfl (info25 _)) rfl ?_
          refine ⟨_, rfl, hw2, ?_, below_setRow (below_setRow hbb2 (by omega) _) (by omega) _⟩
          have := HV.out
          rw [HV2.out, this]
          exact mod_ge _ (by omega) hT
        · have hge' : V8 g1 < PP := by omega
          refine (gep_any _ hw1 _).mono ?_
          rintro e w1 ⟨rfl, hb1⟩
          have hr1 := hr.below hb1 hr.lt
          have hr01 := hr0.below hb1 hr0.lt
          have hbb1 := hb.trans (hb1.mono (by omega))
          have hr04 : Row8 25 (w1.setRow (w.heap.size + 1) (C8 g1)) (w.heap.size + 1) g1 := hr01.row
          go_wp2_with (first
            | (refine wpList_load_row rfl 25 _ rfl w.heap.size rfl 25 _ (0, 0) _ hr1 Try.underlying25 rfl (info25 _) ?_)
            | (refine wpList_store_row rfl 25 _ _ rfl (w.heap.size + 1) _ rfl rfl 25 _ hr01 (info25 _) rfl (one8 _) ?_))
          refine bodyPost_ret (results_cell_row Try.results12 _ _ (w.heap.size + 1) 25 _ (0, 0) _ rfl hr04 Try.underlying25 rfl (info25 _)) rfl ?_
          refine ⟨_, rfl, hw1, ?_, below_setRow hbb1 (by omega) _⟩
          have := HV.out
          rw [this]
          exact mod_lt _ (by omega) (by omega)
end Go.Proofs.Qxb6632417a
