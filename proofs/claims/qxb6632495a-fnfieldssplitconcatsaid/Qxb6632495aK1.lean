/-
  THE WALKS (1): fieldsEqStrings, Fields.
-/
import Derived.Test.Qxb6632495aMk
namespace Go.Proofs.Qxb6632495a
open Go.RowKit

set_option maxHeartbeats 400000 in
theorem eqs_any (a b : Option Addr) (n cap cap' : Nat) (A B : Nat → Addr) (s t : Nat → ByteArray) (w : World) (hn : n ≤ 1048576) (h1 : SL w a n cap A s) (h2 : SL w b n cap' B t) (he : ∀ j, j < n → s j = t j) :
    Calls Try.prog 10 #[.slice a n cap, .slice b n cap'] w fun e w' => e = .returned (.bool true) ∧ Below w.heap.size w w' := by
  have HE := hide he; clear he
  go_enter Try.func10, Try.ntmps10
  go_wp2
  go_loopw [5] (fun i wr => Below w.heap.size w wr ∧ (∀ x, wr.cell? x = w.cell? x) ∧ ∃ k : Nat, k ≤ n ∧ i = .int .i64 k) (fun i _ => (n - intOf i).toNat)
  case atStart => exact ⟨Below.refl _ _, fun _ => rfl, 0, by omega, rfl⟩
  case round =>
    obtain ⟨hb, hx, k, hk, rfl⟩ := hrel
    by_cases hlt : k < n
    · have hi := h1.idx k hlt
      have hi' := h2.idx k hlt
      have hc := (hx _).trans (h1.cell k hlt)
      have hc' := (hx _).trans (h2.cell k hlt)
      rw [← HE.out k hlt] at hc'
      have HX := hide hx; clear hx
      go_wp2
      go_region
      go_wp2
      exact ⟨⟨hb.drew, fun x => HX.out x, k + 1, by omega, by go_num⟩, by simp [intOf]; omega⟩
    · clear hx
      go_wp2
      go_ret
      exact ⟨rfl, hb⟩

set_option maxHeartbeats 400000 in
theorem fields_any (p : ByteArray) (g n : Nat) (s t : Nat → ByteArray) (w : World) (hn : n ≤ 1048576) (hg : 0 < n → g < w.heap.size)
    (hf : ∀ j, j < n → w.cell? ⟨g, j * 2, none⟩ = some (.string (s j)) ∧ w.cell? ⟨g, j * 2 + 1, none⟩ = some (.string (t j))) :
    Calls Try.prog 9 #[.agg #[.string p, .slice (some ⟨g, 0, none⟩) n n]] w fun e w' => ∃ (h : Nat) (C : Array Value), e = .returned (.slice (some ⟨h, 0, none⟩) n n) ∧ w.heap.size ≤ h ∧
      w'.heap[h]? = some (.cells C 9 (0, 0)) ∧ C.size = n ∧ (∀ j, j < n → C[j]? = some (.string (s j))) ∧ Below w.heap.size w w' := by
  have HFd := hide hf; clear hf
  have hmk := make22 n hn
  go_enter Try.func9, Try.ntmps9
  go_wp2
  go_loopw [13] (fun i wr => Below w.heap.size w wr ∧ w.heap.size + 2 ≤ wr.heap.size ∧ ∃ (k : Nat) (C : Array Value), k ≤ n ∧ i = .int .i64 k ∧ wr.heap[w.heap.size + 1]? = some (.cells C 9 (0, 0)) ∧ C.size = n ∧ ∀ j, j < k → C[j]? = some (.string (s j))) (fun i _ => (n - intOf i).toNat)
  case atStart => exact ⟨by go_grown, by simp, 0, Z1 n, by omega, rfl, heap_alloc2_new _ _ _, Z1_size n, fun j hj => by omega⟩
  case round =>
    obtain ⟨hb, hsz, k, C, hk, rfl, hC, hCs, hCj⟩ := hrel
    have HC := hide hC; clear hC
    have HJ := hide hCj; clear hCj
    by_cases hlt : k < n
    · have hgl := hg (by omega)
      obtain ⟨f1, f2⟩ := HFd.out k hlt
      have c1 := (hb.cell (p := ⟨g, k * 2, none⟩) hgl).trans f1
      have c2 := (hb.cell (p := ⟨g, k * 2 + 1, none⟩) hgl).trans f2
      have hrow : (wr.alloc (.cells #[.string (s k), .string (t k)] 32)).heap[w.heap.size + 1]? = some (.cells C 9 (0, 0)) := (Below.heap_alloc _ _ _ (by omega)).trans HC.out
      have hfr := frozen_of_row _ (w.heap.size + 1) k C 9 hrow
      have hcc := cell_of_row _ (w.heap.size + 1) k C 9 (0, 0) hrow
      obtain ⟨v, hv⟩ : ∃ v, C[k]? = some v := ⟨C[k], Array.getElem?_eq_getElem (by omega)⟩
      rw [hv] at hcc
      have HR := hide hrow; clear hrow hv
      clear f1 f2
      go_wp2
      refine ⟨⟨(hb.alloc (by omega) _).setCell (by simp) _, by simp; omega, k + 1, C.setIfInBounds k (.string (s k)), by omega, by go_num, heap_setCell_same _ _ _ _ _ _ HR.out, by simpa using hCs, fun j hj => ?_⟩, by simp [intOf]; omega⟩
      by_cases e : j = k
      · rw [e, Array.getElem?_setIfInBounds, if_pos rfl, if_pos (by omega)]
      · rw [Array.getElem?_setIfInBounds_ne (by omega)]; exact HJ.out j (by omega)
    · go_wp2
      go_ret
      exact ⟨w.heap.size + 1, C, rfl, by omega, HC.out, hCs, fun j hj => HJ.out j (by omega), hb⟩

theorem info28 {x y : Value} : (Try.prog.info? 28).map (·.size) = some #[x, y].size := by kernel_rfl

theorem one28 {p : ByteArray} {a : Option Addr} {n m : Nat} : (#[.string p, .slice a n m] : Array Value).all (·.oneCell') = true := by simp [Value.oneCell']

/-- The two cells of field j. -/
def FL (w : World) (g n : Nat) (s t : Nat → ByteArray) : Prop := ∀ j, j < n → w.cell? ⟨g, j * 2, none⟩ = some (.string (s j)) ∧ w.cell? ⟨g, j * 2 + 1, none⟩ = some (.string (t j))

set_option maxHeartbeats 400000 in
theorem new_any (p : ByteArray) (a b : Option Addr) (n cap cap' : Nat) (A B : Nat → Addr) (s t : Nat → ByteArray) (w : World) (hn : n ≤ 1048576) (h1 : SL w a n cap A s) (h2 : SL w b n cap' B t) :
    Calls Try.prog 8 #[.string p, .slice a n cap, .slice b n cap'] w fun e w' => ∃ g : Nat, e = .returned (.agg #[.string p, .slice (some ⟨g, 0, none⟩) n n]) ∧ w.heap.size ≤ g ∧ g < w'.heap.size ∧ FL w' g n s t ∧ Below w.heap.size w w' := by
  have hmk := make26 n hn
  go_enter Try.func8, Try.ntmps8
  go_wp2
  go_loopw [14] (fun i wr => Below w.heap.size w wr ∧ wr.heap.size = w.heap.size + 2 ∧ wr.heap[w.heap.size]? = some (.cells #[.string ⟨#[]⟩, .slice none 0 0] 28 (0, 0)) ∧ ∃ (k : Nat) (C : Array Value), k ≤ n ∧ i = .int .i64 k ∧
      wr.heap[w.heap.size + 1]? = some (.cells C 32 (0, 0)) ∧ C.size = n * 2 ∧ ∀ j, j < k → C[j * 2]? = some (.string (s j)) ∧ C[j * 2 + 1]? = some (.string (t j))) (fun i _ => (n - intOf i).toNat)
  case atStart => exact ⟨by go_grown, by simp, heap_alloc2_old _ _ _, 0, Z2 n, by omega, rfl, heap_alloc2_new _ _ _, Z2_size n, fun j hj => by omega⟩
  case round =>
    obtain ⟨hb, hsz, hres, k, C, hk, rfl, hC, hCs, hCj⟩ := hrel
    have HC := hide hC; clear hC
    have HR := hide hres; clear hres
    have HJ := hide hCj; clear hCj
    by_cases hlt : k < n
    · have hi := h1.idx k hlt
      have hi' := h2.idx k hlt
      have hc := (hb.cell (block_lt_of_cell (h1.cell k hlt))).trans (h1.cell k hlt)
      have hc' := (hb.cell (block_lt_of_cell (h2.cell k hlt))).trans (h2.cell k hlt)
      have hf0 := frozen_of_row wr (w.heap.size + 1) (k * 2) C 32 HC.out
      have hf1 := frozen_of_row wr (w.heap.size + 1) (k * 2 + 1) C 32 HC.out
      have hcc := cell_of_row wr (w.heap.size + 1) (k * 2) C 32 (0, 0) HC.out
      have hcc' := cell_of_row wr (w.heap.size + 1) (k * 2 + 1) C 32 (0, 0) HC.out
      obtain ⟨v, hv⟩ : ∃ v, C[k * 2]? = some v := ⟨C[k * 2], Array.getElem?_eq_getElem (by omega)⟩
      obtain ⟨v', hv'⟩ : ∃ v, C[k * 2 + 1]? = some v := ⟨C[k * 2 + 1], Array.getElem?_eq_getElem (by omega)⟩
      rw [hv] at hcc
      rw [hv'] at hcc'
      clear hv hv'
      go_wp2
      go_region
      go_wp2
      refine ⟨⟨((hb.setCell (by simp) _).setCell (by simp) _).drew, by simpa using hsz, ?_, k + 1, (C.setIfInBounds (k * 2) (.string (s k))).setIfInBounds (k * 2 + 1) (.string (t k)), by omega, by go_num, ?_, by simpa using hCs, fun j hj => ?_⟩, by simp [intOf]; omega⟩
      · rw [heap_drew, heap_setCell_other _ _ _ _ (by simp), heap_setCell_other _ _ _ _ (by simp)]; exact HR.out
      · rw [heap_drew]; exact heap_setCell_same _ _ _ _ _ _ (heap_setCell_same _ _ _ _ _ _ HC.out)
      · by_cases e : j = k
        · rw [e]
          refine ⟨?_, ?_⟩
          · rw [Array.getElem?_setIfInBounds_ne (by omega), Array.getElem?_setIfInBounds, if_pos rfl, if_pos (by omega)]
          · rw [Array.getElem?_setIfInBounds, if_pos rfl, if_pos (by simp; omega)]
        · have := HJ.out j (by omega)
          rw [Array.getElem?_setIfInBounds_ne (by omega), Array.getElem?_setIfInBounds_ne (by omega), Array.getElem?_setIfInBounds_ne (by omega), Array.getElem?_setIfInBounds_ne (by omega)]
          exact this
    · have hres := HR.out
      have hr2 : (wr.setRow w.heap.size #[.string p, .slice (some ⟨w.heap.size + 1, 0, none⟩) n n]).heap[w.heap.size]? = some (.cells #[.string p, .slice (some ⟨w.heap.size + 1, 0, none⟩) n n] 28 (0, 0)) := setRow_heap _ _ _ _ _ _ hres
      have HR2 := hide hr2; clear hr2
      go_wp2_with (show wpList _ _ _ (Oper.mk _ (.store 28 _ _) _ _ _ _ :: _) _ _; refine wpList_store_row rfl 28 _ _ rfl w.heap.size #[.string p, .slice (some ⟨w.heap.size + 1, 0, none⟩) n n] rfl rfl 28 _ hres info28 rfl one28 ?_)
      refine bodyPost_ret (results_cell_row Try.results8 _ _ w.heap.size 28 _ (0, 0) _ rfl HR2.out Try.underlying28 rfl info28) rfl ?_
      refine ⟨w.heap.size + 1, rfl, by omega, by simp [World.setRow]; omega, fun j hj => ?_, ?_⟩
      · have hC2 : (wr.setRow w.heap.size #[.string p, .slice (some ⟨w.heap.size + 1, 0, none⟩) n n]).heap[w.heap.size + 1]? = some (.cells C 32 (0, 0)) := (setRow_other _ _ _ _ (by omega)).trans HC.out
        rw [cell_of_row _ _ _ _ _ _ hC2, cell_of_row _ _ _ _ _ _ hC2]
        exact HJ.out j (by omega)
      · exact hb.trans ⟨rfl, rfl, rfl, by simp [World.setRow], fun k hk => setRow_other _ _ _ _ (by omega)⟩
end Go.Proofs.Qxb6632495a
