/-
  THE WALKS (5): zzLow, carry.
-/
import Derived.Test.Qxb6632417aBase
import Derived.Test.Qxb6632417aMath2
namespace Go.Proofs.Qxb6632417a
open Go.RowKit

theorem start3' (w : World) (A B C : Obj) : (((w.alloc A).alloc B).alloc C).heap[w.heap.size]? = some A ∧ (((w.alloc A).alloc B).alloc C).heap[w.heap.size + 1]? = some B ∧ (((w.alloc A).alloc B).alloc C).heap[w.heap.size + 1 + 1]? = some C := by
  refine ⟨?_, ?_, ?_⟩ <;> show (((w.heap.push A).push B).push C)[_]? = _ <;> rw [Array.getElem?_push]
  · rw [if_neg (by simp; omega), Array.getElem?_push, if_neg (by simp), Array.getElem?_push, if_pos rfl]
  · rw [if_neg (by simp), Array.getElem?_push, if_pos (by simp)]
  · rw [if_pos (by simp)]

set_option maxHeartbeats 800000 in
theorem low_any (r : Nat → Int) (w : World) :
    Calls Try.prog 7 #[.agg (C8 r)] w fun e w' => ∃ u : Nat → Int, e = .returned (.agg (C16 u)) ∧ (∀ j, j < 8 → u j = r j) ∧ (∀ j, 8 ≤ j → u j = 0) ∧ Below w.heap.size w w' := by
  go_enter Try.func7, Try.ntmps7
  go_wp2
  go_loopw [4] (fun i wr => ∃ (u : Nat → Int) (k : Nat), k ≤ 8 ∧ i = .int .i64 k ∧ Below w.heap.size w wr ∧ wr.heap.size = w.heap.size + 3 ∧ Row8 25 wr w.heap.size r ∧ Row16 wr (w.heap.size + 1) (fun _ => 0) ∧ Row16 wr (w.heap.size + 1 + 1) u ∧
      (∀ j, j < k → u j = r j) ∧ ∀ j, k ≤ j → u j = 0) (fun i _ => (8 - intOf i).toNat)
  case atStart =>
    exact ⟨fun _ => 0, 0, by omega, rfl, by go_grown, by simp, (start3' w _ _ _).1, (start3' w _ _ _).2.1, (start3' w _ _ _).2.2, fun j hj => by omega, fun j _ => rfl⟩
  case round =>
    obtain ⟨u, k, hk, rfl, hb, hsz, hr, hr1, hr2, h1, h2⟩ := hrel
    have H1 := hide h1; clear h1
    have H2 := hide h2; clear h2
    by_cases hlt : k < 8
    · have hc := hr.cell k hlt
      have hc2 := hr2.cell k (by omega)
      have hf := hr2.frozen k
      go_wp2
      refine ⟨⟨upd u k (r k), k + 1, by omega, by go_num, hb.setCell (by simp; omega) _, by simpa using hsz, hr.setOther _ _ (by simp; omega), hr1.setOther _ _ (by simp), hr2.set k (by omega) _, fun j hj => ?_, fun j hj => ?_⟩, by simp [intOf]; omega⟩
      · by_cases e : j = k
        · rw [e, upd_same]
        · rw [upd_other _ _ _ _ e]; exact H1.out j (by omega)
      · rw [upd_other _ _ _ _ (by omega)]; exact H2.out j (by omega)
    · have hk8 : k = 8 := by omega
      subst hk8
      have hr3 : Row16 (wr.setRow (w.heap.size + 1) (C16 u)) (w.heap.size + 1) u := hr1.row
      go_wp2_with (first
        | (refine wpList_load_row rfl 24 _ rfl (w.heap.size + 1 + 1) rfl 24 _ (0, 0) _ hr2 Try.underlying24 rfl (info24 _) ?_)
        | (refine wpList_store_row rfl 24 _ _ rfl (w.heap.size + 1) _ rfl rfl 24 _ hr1 (info24 _) rfl (one16 _) ?_))
      refine bodyPost_ret (results_cell_row Try.results7 _ _ (w.heap.size + 1) 24 _ (0, 0) _ rfl hr3 Try.underlying24 rfl (info24 _)) rfl ?_
      exact ⟨_, rfl, H1.out, H2.out, below_setRow hb (by omega) _⟩

/-- What carry's rounds keep. -/
structure CarryIs (g h : Nat → Int) (k : Nat) : Prop where
  bd : ∀ j, j < 8 → 0 ≤ h j ∧ h j ≤ 4611686018427387968
  lo : ∀ j, j < k → h j ≤ 72057594037927935
  hi : ∀ j, k < j → h j = g j
  val : L8 h = L8 g
  fix : (∀ j, j < 8 → g j ≤ 72057594037927935) → ∀ j, j < 8 → h j = g j

theorem CarryIs.next {g h : Nat → Int} {k : Nat} (c : CarryIs g h k) (hk : k < 7) (hg : ∀ j, j < 8 → 0 ≤ g j ∧ g j < 4611686018427387904) :
    CarryIs g (upd (upd h (k + 1) (h (k + 1) + h k / 72057594037927936)) k (h k % 72057594037927936)) (k + 1) := by
  have b1 := c.bd k (by omega)
  have b2 := hg (k + 1) (by omega)
  have e2 := c.hi (k + 1) (by omega)
  refine ⟨fun j hj => ?_, fun j hj => ?_, fun j hj => ?_, (carry_step h k hk).trans c.val, fun hz j hj => ?_⟩
  · by_cases e : j = k
    · rw [e, upd_same]; omega
    · rw [upd_other _ _ _ _ e]
      by_cases e' : j = k + 1
      · rw [e', upd_same]; omega
      · rw [upd_other _ _ _ _ e']; exact c.bd j hj
  · by_cases e : j = k
    · rw [e, upd_same]; omega
    · rw [upd_other _ _ _ _ e, upd_other _ _ _ _ (by omega)]; exact c.lo j (by omega)
  · rw [upd_other _ _ _ _ (by omega), upd_other _ _ _ _ (by omega)]; exact c.hi j (by omega)
  · have f := c.fix hz
    have z := hz k (by omega)
    have z' := f k (by omega)
    by_cases e : j = k
    · rw [e, upd_same]; omega
    · rw [upd_other _ _ _ _ e]
      by_cases e' : j = k + 1
      · rw [e', upd_same, f (k + 1) (by omega)]; omega
      · rw [upd_other _ _ _ _ e']; exact f j hj

/-- What carry hands back. -/
structure Carried (g r : Nat → Int) : Prop where
  bd : ∀ j, j < 8 → 0 ≤ r j ∧ r j ≤ 72057594037928191
  bd56 : ∀ j, j < 8 → j ≠ 0 → j ≠ 4 → r j ≤ 72057594037927935
  val : ∃ q, L8 g = L8 r + q * PP
  fix : (∀ j, j < 8 → g j ≤ 72057594037927935) → ∀ j, j < 8 → r j = g j

theorem CarryIs.last {g h : Nat → Int} (c : CarryIs g h 7) : Carried g (upd (upd (upd h 7 (h 7 % 72057594037927936)) 0 (h 0 + h 7 / 72057594037927936)) 4 (h 4 + h 7 / 72057594037927936)) := by
  have b7 := c.bd 7 (by omega)
  have b0 := c.bd 0 (by omega)
  have b4 := c.bd 4 (by omega)
  have l0 := c.lo 0 (by omega)
  have l4 := c.lo 4 (by omega)
  refine ⟨fun j hj => ?_, fun j hj n0 n4 => ?_, ⟨h 7 / 72057594037927936, ?_⟩, fun hz j hj => ?_⟩
  · by_cases e : j = 4
    · rw [e, upd_same]; omega
    · rw [upd_other _ _ _ _ e]
      by_cases e : j = 0
      · rw [e, upd_same]; omega
      · rw [upd_other _ _ _ _ e]
        by_cases e : j = 7
        · rw [e, upd_same]; omega
        · rw [upd_other _ _ _ _ e]
          have := c.bd j hj; have := c.lo j (by omega); omega
  · rw [upd_other _ _ _ _ n4, upd_other _ _ _ _ n0]
    by_cases e : j = 7
    · rw [e, upd_same]; omega
    · rw [upd_other _ _ _ _ e]; exact c.lo j (by omega)
  · rw [← c.val]
    exact carry_top h _ _ rfl (by simp [upd]) (by simp [upd]) (by simp [upd]) (by simp [upd])
  · have f := c.fix hz
    have z := hz 7 (by omega)
    have z' := f 7 (by omega)
    have t : h 7 / 72057594037927936 = 0 := by omega
    rw [t]
    by_cases e : j = 4
    · rw [e, upd_same, f 4 (by omega)]; omega
    · rw [upd_other _ _ _ _ e]
      by_cases e : j = 0
      · rw [e, upd_same, f 0 (by omega)]; omega
      · rw [upd_other _ _ _ _ e]
        by_cases e : j = 7
        · rw [e, upd_same]; omega
        · rw [upd_other _ _ _ _ e]; exact f j hj

set_option maxHeartbeats 800000 in
theorem carry_any (g : Nat → Int) (hg : ∀ j, j < 8 → 0 ≤ g j ∧ g j < 4611686018427387904) (w : World) :
    Calls Try.prog 13 #[.agg (C8 g)] w fun e w' => ∃ r : Nat → Int, e = .returned (.agg (C8 r)) ∧ Carried g r ∧ Below w.heap.size w w' := by
  have HG := hide hg; clear hg
  go_enter Try.func13, Try.ntmps13
  go_wp2
  go_loopw [5] (fun i wr => ∃ (h : Nat → Int) (k : Nat), k ≤ 7 ∧ i = .int .i64 k ∧ Below w.heap.size w wr ∧ wr.heap.size = w.heap.size + 2 ∧ Row8 30 wr w.heap.size h ∧ Row8 30 wr (w.heap.size + 1) (fun _ => 0) ∧ CarryIs g h k) (fun i _ => (7 - intOf i).toNat)
  case atStart =>
    refine ⟨g, 0, by omega, rfl, by go_grown, by simp, heap_alloc2_old _ _ _, heap_alloc2_new _ _ _, fun j hj => ?_, fun j hj => by omega, fun j _ => rfl, rfl, fun _ _ _ => rfl⟩
    have := HG.out j hj; omega
  case round =>
    obtain ⟨h, k, hk, rfl, hb, hsz, hr, hr0, hci⟩ := hrel
    by_cases hlt : k < 7
    · have hc := hr.cell k (by omega)
      have hc' := hr.cell (k + 1) (by omega)
      have hf := hr.frozen k
      have hf' := hr.frozen (k + 1)
      have b1 := hci.bd k (by omega)
      have b2 := hci.bd (k + 1) (by omega)
      go_wp2
      go_region
      go_wp2
      rw [and_mask _ (by omega) (by omega)]
      refine ⟨⟨_, k + 1, by omega, by go_num, ((hb.setCell (by simp) _).setCell (by simp) _).drew, by simpa using hsz, ((hr.set _ (by omega) _).set _ (by omega) _).drew, ((hr0.setOther _ _ (by simp)).setOther _ _ (by simp)).drew, hci.next hlt HG.out⟩, by simp [intOf]; omega⟩
    · have hk8 : k = 7 := by omega
      subst hk8
      have c0 := hr.cell 0 (by omega)
      have c4 := hr.cell 4 (by omega)
      have c7 := hr.cell 7 (by omega)
      have f0 := hr.frozen 0
      have f4 := hr.frozen 4
      have f7 := hr.frozen 7
      have b1 := hci.bd 0 (by omega)
      have b2 := hci.bd 4 (by omega)
      have b3 := hci.bd 7 (by omega)
      have hrw := ((hr.set 7 (by omega) (bits BinOp.and IntKind.u64 (h 7) 72057594037927935)).set 0 (by omega) (h 0 + h 7 / 72057594037927936)).set 4 (by omega) (h 4 + h 7 / 72057594037927936)
      have hr0w := ((hr0.setOther ⟨w.heap.size, 7, none⟩ (.int .u64 (bits BinOp.and IntKind.u64 (h 7) 72057594037927935)) (by simp)).setOther ⟨w.heap.size, 0, none⟩ (.int .u64 (h 0 + h 7 / 72057594037927936)) (by simp)).setOther ⟨w.heap.size, 4, none⟩ (.int .u64 (h 4 + h 7 / 72057594037927936)) (by simp)
      have hr2 := hr0w.row (g' := upd (upd (upd h 7 (bits BinOp.and IntKind.u64 (h 7) 72057594037927935)) 0 (h 0 + h 7 / 72057594037927936)) 4 (h 4 + h 7 / 72057594037927936))
      go_wp2_with (first
        | (show wpList _ _ _ (Oper.mk _ (.load 30 _) _ _ _ _ :: _) _ _; refine wpList_load_row rfl 30 _ rfl w.heap.size rfl 30 _ (0, 0) _ hrw Try.underlying30 rfl (info30 _) ?_)
        | (show wpList _ _ _ (Oper.mk _ (.store 30 _ _) _ _ _ _ :: _) _ _; refine wpList_store_row rfl 30 _ _ rfl (w.heap.size + 1) _ rfl rfl 30 _ hr0w (info30 _) rfl (one8 _) ?_))
      refine bodyPost_ret (results_cell_row Try.results13 _ _ (w.heap.size + 1) 30 _ (0, 0) _ rfl hr2 Try.underlying30 rfl (info30 _)) rfl ?_
      refine ⟨_, rfl, ?_, ?_⟩
      · rw [and_mask _ (by omega) (by omega)]
        exact hci.last
      · refine below_setRow ?_ (by omega) _
        refine Below.setCell ?_ (show w.heap.size ≤ w.heap.size from Nat.le_refl _) _
        refine Below.setCell ?_ (show w.heap.size ≤ w.heap.size from Nat.le_refl _) _
        exact Below.setCell hb (show w.heap.size ≤ w.heap.size from Nat.le_refl _) _
end Go.Proofs.Qxb6632417a
