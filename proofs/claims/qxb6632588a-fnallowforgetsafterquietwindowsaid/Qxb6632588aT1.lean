/-
  THE WALKS (1): package time: nsec, sec, addSec, Add, Equal, Sub, on times without a monotonic reading.
-/
import Derived.Test.Qxb6632588aRows
import Derived.WalkKit
import Derived.WalkSpells
import Derived.WalkLawsBesides
import Derived.Handy
import Derived.Deep.RegionHeld3
namespace Go.Proofs.Qxb6632588a
open Go.RowKit

theorem hide {p : Prop} (h : p) : Hid p := h

theorem and_top (x : Int) (h0 : 0 ≤ x) (h1 : x < 1073741824) : bits .and .u64 x 9223372036854775808 = 0 := by
  obtain ⟨a, rfl⟩ := Int.eq_ofNat_of_zero_le h0
  have := (bits_nat .u64 64 (by decide) (fun n h0 h1 => by rw [IntKind.wrap_u64]; omega) a 9223372036854775808 (by omega) (by omega)).1
  rw [show ((9223372036854775808 : Nat) : Int) = 9223372036854775808 from rfl] at this
  rw [this]
  have e : a &&& 9223372036854775808 = 0 := by
    apply Nat.eq_of_testBit_eq
    intro i
    rw [Nat.testBit_and, show (9223372036854775808 : Nat) = 2 ^ 63 from rfl, Nat.testBit_two_pow]
    by_cases hi : 63 = i
    · subst hi
      rw [Nat.testBit_lt_two_pow (by omega)]
      simp
    · simp [hi]
  rw [e]; rfl
theorem and_low (x : Int) (h0 : 0 ≤ x) (h1 : x < 1073741824) : bits .and .u64 x 1073741823 = x := by
  have := bits_mask .u64 64 (by decide) (fun n h0 h1 => by rw [IntKind.wrap_u64]; omega) 30 (by decide) x h0 (by simp; omega)
  rw [show ((2 : Int) ^ 30 - 1) = 1073741823 from by decide, show ((2 : Int) ^ 30) = 1073741824 from by decide] at this
  rw [this]; omega

set_option maxHeartbeats 400000 in
theorem nsec_any (a : Addr) (q : Int) (w : World) (h0 : 0 ≤ q) (h1 : q < 1073741824) (hc : w.cell? a = some (.int .u64 q)) :
    Calls Try.prog 15 #[.pointer (some a)] w fun e w' => e = .returned (.int .i32 q) ∧ w' = w := by
  have hl := and_low q h0 h1
  go_enter Try.func15, Try.ntmps15
  go_wp2
  go_ret
  exact ⟨rfl, rfl⟩

set_option maxHeartbeats 400000 in
theorem sec_any (b o : Nat) (q e : Int) (w : World) (h0 : 0 ≤ q) (h1 : q < 1073741824) (hc : w.cell? ⟨b, o, none⟩ = some (.int .u64 q)) (hc1 : w.cell? ⟨b, o + 1, none⟩ = some (.int .i64 e)) :
    Calls Try.prog 21 #[.pointer (some ⟨b, o, none⟩)] w fun e' w' => e' = .returned (.int .i64 e) ∧ w' = w := by
  have hl := and_top q h0 h1
  go_enter Try.func21, Try.ntmps21
  go_wp2
  go_ret
  exact ⟨rfl, rfl⟩

set_option maxHeartbeats 400000 in
theorem addSec_any (b o : Nat) (q e d : Int) (w : World) (h0 : 0 ≤ q) (h1 : q < 1073741824) (he : -1099511627776 ≤ e ∧ e ≤ 1099511627776) (hd : -1099511627776 ≤ d ∧ d ≤ 1099511627776)
    (hc : w.cell? ⟨b, o, none⟩ = some (.int .u64 q)) (hc1 : w.cell? ⟨b, o + 1, none⟩ = some (.int .i64 e)) (hf : w.frozen? ⟨b, o + 1, none⟩ = false) :
    Calls Try.prog 16 #[.pointer (some ⟨b, o, none⟩), .int .i64 d] w fun e' w' => e' = .returned (.tuple #[]) ∧ w' = w.setCell ⟨b, o + 1, none⟩ (.int .i64 (e + d)) := by
  have hl := and_top q h0 h1
  by_cases hp : 0 < d
  · have hx : e < e + d := by omega
    go_enter Try.func16, Try.ntmps16
    go_wp2
    go_end0
    exact ⟨rfl, rfl⟩
  · have hx : ¬ e < e + d := by omega
    go_enter Try.func16, Try.ntmps16
    go_wp2
    go_end0
    exact ⟨rfl, rfl⟩

/-- A time without a monotonic reading: q nanoseconds within the second, e seconds. -/
abbrev TQ (q e : Int) : Array Value := #[.int .u64 q, .int .i64 e, .pointer none]

theorem or_zero (q : Int) (h0 : 0 ≤ q) (h1 : q < 1073741824) : bits .or .u64 0 q = q := by
  have := bits_join .u64 64 (by decide) (fun n h0 h1 => by rw [IntKind.wrap_u64]; omega) 30 0 q (by omega) (by simp) (by simp) h0 (by simpa using h1) (by simp; omega)
  rw [this]; omega
theorem andNot_low (q : Int) (h0 : 0 ≤ q) (h1 : q < 1073741824) : bits .andNot .u64 q 1073741823 = 0 := by
  have := u64_andNot q 1073741823 h0 (by omega) (by omega) (by omega)
  rw [this]
  have e : q.toNat &&& (18446744073709551615 - (1073741823 : Int).toNat) = 0 := by
    apply Nat.eq_of_testBit_eq
    intro i
    rw [Nat.testBit_and, Nat.zero_testBit]
    by_cases hi : i < 30
    · have hb : ∀ i, i < 30 → (18446744073709551615 - (1073741823 : Int).toNat).testBit i = false := by decide
      rw [hb i hi, Bool.and_false]
    · have h2 : q.toNat < 2 ^ i := Nat.lt_of_lt_of_le (show q.toNat < 2 ^ 30 by omega) (Nat.pow_le_pow_right (by decide) (by omega))
      rw [Nat.testBit_lt_two_pow h2, Bool.false_and]
  rw [e]; rfl

theorem infoT {x y z : Value} : (Try.prog.info? 44).map (·.size) = some #[x, y, z].size := by kernel_rfl
theorem oneT (q e : Int) : (TQ q e).all (·.oneCell') = true := by simp [Value.oneCell']

/-- Add, its tail: from the call of addSec on. -/
theorem add_facts (q e : Int) (w : World) :
    ((w.alloc (.cells (TQ q e) 44)).alloc (.cells (TQ 0 0) 44)).cell? ⟨w.heap.size, 0, none⟩ = some (.int .u64 q) ∧ ((w.alloc (.cells (TQ q e) 44)).alloc (.cells (TQ 0 0) 44)).cell? ⟨w.heap.size, 0 + 1, none⟩ = some (.int .i64 e) ∧
      ((w.alloc (.cells (TQ q e) 44)).alloc (.cells (TQ 0 0) 44)).frozen? ⟨w.heap.size, 0 + 1, none⟩ = false ∧
      ∀ v : Int, ((w.alloc (.cells (TQ q e) 44)).alloc (.cells (TQ 0 0) 44)).setCell ⟨w.heap.size, 0 + 1, none⟩ (.int .i64 v) = (w.alloc (.cells (TQ q v) 44)).alloc (.cells (TQ 0 0) 44) := by
  have r0 : ((w.alloc (.cells (TQ q e) 44)).alloc (.cells (TQ 0 0) 44)).heap[w.heap.size]? = some (.cells (TQ q e) 44 (0, 0)) := heap_alloc2_old _ _ _
  refine ⟨(cell_of_row _ _ 0 _ _ _ r0).trans rfl, (cell_of_row _ _ 1 _ _ _ r0).trans rfl, frozen_of_row _ _ _ _ _ r0, fun v => ?_⟩
  simp [go_sem]

set_option maxHeartbeats 800000 in
theorem add_pos (q e d q' e' : Int) (w : World) (hq : 0 ≤ q ∧ q < 1000000000) (he : -4294967296 ≤ e ∧ e ≤ 4294967296) (hd : 0 ≤ d ∧ d ≤ 4611686018427387904) (hq' : 0 ≤ q' ∧ q' < 1000000000) (hs : q' + 1000000000 * e' = q + 1000000000 * e + d) :
    Calls Try.prog 10 #[.agg (TQ q e), .int .i64 d] w fun r w' => r = .returned (.agg (TQ q' e')) ∧ Below w.heap.size w w' := by
  have HS := hide hs; clear hs
  have hl := andNot_low q (by omega) (by omega)
  obtain ⟨c0, -, -, -⟩ := add_facts q e w
  have hdd : 0 ≤ d / 1000000000 ∧ d / 1000000000 ≤ 4611686019 := by omega
  by_cases hn : q + d % 1000000000 < 1000000000
  · have hn' : ¬ q + d % 1000000000 < 0 := by omega
    have ho := or_zero (q + d % 1000000000) (by omega) (by omega)
    go_enter Try.func10, Try.ntmps10
    go_wp2_with fail
    refine (nsec_any _ q _ (by omega) (by omega) c0).mono ?_
    rintro _ _ ⟨rfl, rfl⟩
    go_wp2_with fail
    obtain ⟨d0, d1, f1, st⟩ := add_facts (q + d % 1000000000) e w
    refine (addSec_any w.heap.size 0 (q + d % 1000000000) e (d / 1000000000) _ (by omega) (by omega) (by omega) (by omega) d0 d1 f1).mono ?_
    rintro _ _ ⟨rfl, rfl⟩
    rw [st]
    clear c0 d0 d1 f1 st hl ho
    have ht := and_top (q + d % 1000000000) (by omega) (by omega)
    have r2 : ((w.alloc (.cells (TQ (q + d % 1000000000) (e + (d / 1000000000))) 44)).alloc (.cells (TQ (q + d % 1000000000) (e + (d / 1000000000))) 44)).heap[w.heap.size + 1]? = some (.cells (TQ (q + d % 1000000000) (e + (d / 1000000000))) 44 (0, 0)) := heap_alloc2_new _ _ _
    have R2 := hide r2; clear r2
    go_wp2
    refine bodyPost_ret (results_cell_row Try.results10 _ _ (w.heap.size + 1) 44 _ (0, 0) _ rfl R2.out Try.underlying44 rfl infoT) rfl ?_
    have hs := HS.out
    refine ⟨?_, by go_grown⟩
    rw [show q + d % 1000000000 = q' from by omega, show e + (d / 1000000000) = e' from by omega]
  · have ho := or_zero (q + d % 1000000000 - 1000000000) (by omega) (by omega)
    go_enter Try.func10, Try.ntmps10
    go_wp2_with fail
    refine (nsec_any _ q _ (by omega) (by omega) c0).mono ?_
    rintro _ _ ⟨rfl, rfl⟩
    go_wp2_with fail
    obtain ⟨d0, d1, f1, st⟩ := add_facts (q + d % 1000000000 - 1000000000) e w
    refine (addSec_any w.heap.size 0 (q + d % 1000000000 - 1000000000) e (d / 1000000000 + 1) _ (by omega) (by omega) (by omega) (by omega) d0 d1 f1).mono ?_
    rintro _ _ ⟨rfl, rfl⟩
    rw [st]
    clear c0 d0 d1 f1 st hl ho
    have ht := and_top (q + d % 1000000000 - 1000000000) (by omega) (by omega)
    have r2 : ((w.alloc (.cells (TQ (q + d % 1000000000 - 1000000000) (e + (d / 1000000000 + 1))) 44)).alloc (.cells (TQ (q + d % 1000000000 - 1000000000) (e + (d / 1000000000 + 1))) 44)).heap[w.heap.size + 1]? = some (.cells (TQ (q + d % 1000000000 - 1000000000) (e + (d / 1000000000 + 1))) 44 (0, 0)) := heap_alloc2_new _ _ _
    have R2 := hide r2; clear r2
    go_wp2
    refine bodyPost_ret (results_cell_row Try.results10 _ _ (w.heap.size + 1) 44 _ (0, 0) _ rfl R2.out Try.underlying44 rfl infoT) rfl ?_
    have hs := HS.out
    refine ⟨?_, by go_grown⟩
    rw [show q + d % 1000000000 - 1000000000 = q' from by omega, show e + (d / 1000000000 + 1) = e' from by omega]

set_option maxHeartbeats 800000 in
theorem add_neg (q e d q' e' : Int) (w : World) (hq : 0 ≤ q ∧ q < 1000000000) (he : -4294967296 ≤ e ∧ e ≤ 4294967296) (hd : -4611686018427387904 ≤ d ∧ d < 0) (hq' : 0 ≤ q' ∧ q' < 1000000000) (hs : q' + 1000000000 * e' = q + 1000000000 * e + d) :
    Calls Try.prog 10 #[.agg (TQ q e), .int .i64 d] w fun r w' => r = .returned (.agg (TQ q' e')) ∧ Below w.heap.size w w' := by
  have HS := hide hs; clear hs
  have hl := andNot_low q (by omega) (by omega)
  obtain ⟨c0, -, -, -⟩ := add_facts q e w
  obtain ⟨k, r, hk, hr0, hr1⟩ : ∃ k r : Int, d = -(1000000000 * k + r) ∧ 0 ≤ r ∧ r < 1000000000 := ⟨(-d) / 1000000000, (-d) % 1000000000, by omega, by omega, by omega⟩
  have hkb : 0 ≤ k ∧ k ≤ 4611686019 := by omega
  have t1 : d.tdiv 1000000000 = -k := by
    rw [hk, Int.neg_tdiv, Int.tdiv_eq_ediv_of_nonneg (by omega)]; omega
  have t2 : d.tmod 1000000000 = -r := by
    rw [hk, Int.neg_tmod, Int.tmod_eq_emod_of_nonneg (by omega)]; omega
  have HK := hide hk; clear hk
  by_cases hn : q + -r < 0
  · have ho := or_zero (q + -r + 1000000000) (by omega) (by omega)
    go_enter Try.func10, Try.ntmps10
    go_wp2_with fail
    refine (nsec_any _ q _ (by omega) (by omega) c0).mono ?_
    rintro _ _ ⟨rfl, rfl⟩
    go_wp2_with fail
    obtain ⟨d0, d1, f1, st⟩ := add_facts (q + -r + 1000000000) e w
    refine (addSec_any w.heap.size 0 (q + -r + 1000000000) e (-k - 1) _ (by omega) (by omega) (by omega) (by omega) d0 d1 f1).mono ?_
    rintro _ _ ⟨rfl, rfl⟩
    rw [st]
    clear c0 d0 d1 f1 st hl ho
    have ht := and_top (q + -r + 1000000000) (by omega) (by omega)
    have r2 : ((w.alloc (.cells (TQ (q + -r + 1000000000) (e + (-k - 1))) 44)).alloc (.cells (TQ (q + -r + 1000000000) (e + (-k - 1))) 44)).heap[w.heap.size + 1]? = some (.cells (TQ (q + -r + 1000000000) (e + (-k - 1))) 44 (0, 0)) := heap_alloc2_new _ _ _
    have R2 := hide r2; clear r2
    go_wp2
    refine bodyPost_ret (results_cell_row Try.results10 _ _ (w.heap.size + 1) 44 _ (0, 0) _ rfl R2.out Try.underlying44 rfl infoT) rfl ?_
    have hs := HS.out
    have hk := HK.out
    refine ⟨?_, by go_grown⟩
    rw [show q + -r + 1000000000 = q' from by omega, show e + (-k - 1) = e' from by omega]
  · have ho := or_zero (q + -r) (by omega) (by omega)
    go_enter Try.func10, Try.ntmps10
    go_wp2_with fail
    refine (nsec_any _ q _ (by omega) (by omega) c0).mono ?_
    rintro _ _ ⟨rfl, rfl⟩
    go_wp2_with fail
    obtain ⟨d0, d1, f1, st⟩ := add_facts (q + -r) e w
    refine (addSec_any w.heap.size 0 (q + -r) e (-k) _ (by omega) (by omega) (by omega) (by omega) d0 d1 f1).mono ?_
    rintro _ _ ⟨rfl, rfl⟩
    rw [st]
    clear c0 d0 d1 f1 st hl ho
    have ht := and_top (q + -r) (by omega) (by omega)
    have r2 : ((w.alloc (.cells (TQ (q + -r) (e + (-k))) 44)).alloc (.cells (TQ (q + -r) (e + (-k))) 44)).heap[w.heap.size + 1]? = some (.cells (TQ (q + -r) (e + (-k))) 44 (0, 0)) := heap_alloc2_new _ _ _
    have R2 := hide r2; clear r2
    go_wp2
    refine bodyPost_ret (results_cell_row Try.results10 _ _ (w.heap.size + 1) 44 _ (0, 0) _ rfl R2.out Try.underlying44 rfl infoT) rfl ?_
    have hs := HS.out
    have hk := HK.out
    refine ⟨?_, by go_grown⟩
    rw [show q + -r = q' from by omega, show e + (-k) = e' from by omega]

/-- Add, whatever the sign. -/
theorem add_any (q e d q' e' : Int) (w : World) (hq : 0 ≤ q ∧ q < 1000000000) (he : -4294967296 ≤ e ∧ e ≤ 4294967296) (hd : -4611686018427387904 ≤ d ∧ d ≤ 4611686018427387904) (hq' : 0 ≤ q' ∧ q' < 1000000000) (hs : q' + 1000000000 * e' = q + 1000000000 * e + d) :
    Calls Try.prog 10 #[.agg (TQ q e), .int .i64 d] w fun r w' => r = .returned (.agg (TQ q' e')) ∧ Below w.heap.size w w' := by
  by_cases h : 0 ≤ d
  · exact add_pos q e d q' e' w hq he ⟨h, hd.2⟩ hq' hs
  · exact add_neg q e d q' e' w hq he ⟨hd.1, by omega⟩ hq' hs

set_option maxHeartbeats 800000 in
theorem equal_any (q e : Int) (w : World) (hq : 0 ≤ q ∧ q < 1000000000) :
    Calls Try.prog 22 #[.agg (TQ q e), .agg (TQ q e)] w fun r w' => r = .returned (.bool true) ∧ Below w.heap.size w w' := by
  have r0 : ((w.alloc (.cells (TQ q e) 44)).alloc (.cells (TQ q e) 44)).heap[w.heap.size]? = some (.cells (TQ q e) 44 (0, 0)) := heap_alloc2_old _ _ _
  have r1 : ((w.alloc (.cells (TQ q e) 44)).alloc (.cells (TQ q e) 44)).heap[w.heap.size + 1]? = some (.cells (TQ q e) 44 (0, 0)) := heap_alloc2_new _ _ _
  have a0 : ((w.alloc (.cells (TQ q e) 44)).alloc (.cells (TQ q e) 44)).cell? ⟨w.heap.size, 0, none⟩ = some (.int .u64 q) := (cell_of_row _ _ 0 _ _ _ r0).trans rfl
  have a1 : ((w.alloc (.cells (TQ q e) 44)).alloc (.cells (TQ q e) 44)).cell? ⟨w.heap.size, 0 + 1, none⟩ = some (.int .i64 e) := (cell_of_row _ _ 1 _ _ _ r0).trans rfl
  have b0 : ((w.alloc (.cells (TQ q e) 44)).alloc (.cells (TQ q e) 44)).cell? ⟨w.heap.size + 1, 0, none⟩ = some (.int .u64 q) := (cell_of_row _ _ 0 _ _ _ r1).trans rfl
  have b1 : ((w.alloc (.cells (TQ q e) 44)).alloc (.cells (TQ q e) 44)).cell? ⟨w.heap.size + 1, 0 + 1, none⟩ = some (.int .i64 e) := (cell_of_row _ _ 1 _ _ _ r1).trans rfl
  have A0 := hide a0; have A1 := hide a1; have B0 := hide b0; have B1 := hide b1
  clear r0 r1 a0 a1 b0 b1
  have hx : bits .and .u64 q q = q := by
    obtain ⟨a, rfl⟩ := Int.eq_ofNat_of_zero_le hq.1
    rw [(bits_nat .u64 64 (by decide) (fun n h0 h1 => by rw [IntKind.wrap_u64]; omega) a a (by omega) (by omega)).1, Nat.and_self]
  have ht := and_top q (by omega) (by omega)
  go_enter Try.func22, Try.ntmps22
  go_wp2_with fail
  refine (sec_any w.heap.size 0 q e _ (by omega) (by omega) A0.out A1.out).mono ?_
  rintro _ _ ⟨rfl, rfl⟩
  go_wp2_with fail
  refine (sec_any (w.heap.size + 1) 0 q e _ (by omega) (by omega) B0.out B1.out).mono ?_
  rintro _ _ ⟨rfl, rfl⟩
  go_wp2_with fail
  refine (nsec_any _ q _ (by omega) (by omega) A0.out).mono ?_
  rintro _ _ ⟨rfl, rfl⟩
  go_wp2_with fail
  refine (nsec_any _ q _ (by omega) (by omega) B0.out).mono ?_
  rintro _ _ ⟨rfl, rfl⟩
  go_wp2
  go_ret
  exact ⟨rfl, by go_grown⟩

/-- The cells of the two operands. -/
theorem two_times (q e q' e' : Int) (w w' : World) (h : Below ((w.alloc (.cells (TQ q e) 44)).alloc (.cells (TQ q' e') 44)).heap.size ((w.alloc (.cells (TQ q e) 44)).alloc (.cells (TQ q' e') 44)) w') :
    w'.cell? ⟨w.heap.size, 0, none⟩ = some (.int .u64 q) ∧ w'.cell? ⟨w.heap.size, 1, none⟩ = some (.int .i64 e) ∧ w'.cell? ⟨w.heap.size, 2, none⟩ = some (.pointer none) ∧ w'.cell? ⟨w.heap.size + 1, 0, none⟩ = some (.int .u64 q') ∧ w'.cell? ⟨w.heap.size + 1, 1, none⟩ = some (.int .i64 e') ∧ w'.cell? ⟨w.heap.size + 1, 2, none⟩ = some (.pointer none) := by
  have r0 : w'.heap[w.heap.size]? = some (.cells (TQ q e) 44 (0, 0)) := (h.block _ (by simp; omega)).trans (heap_alloc2_old _ _ _)
  have r1 : w'.heap[w.heap.size + 1]? = some (.cells (TQ q' e') 44 (0, 0)) := (h.block _ (by simp)).trans (heap_alloc2_new _ _ _)
  exact ⟨(cell_of_row _ _ 0 _ _ _ r0).trans rfl, (cell_of_row _ _ 1 _ _ _ r0).trans rfl, (cell_of_row _ _ 2 _ _ _ r0).trans rfl, (cell_of_row _ _ 0 _ _ _ r1).trans rfl, (cell_of_row _ _ 1 _ _ _ r1).trans rfl, (cell_of_row _ _ 2 _ _ _ r1).trans rfl⟩

set_option maxHeartbeats 800000 in
theorem sub_any (q e q' e' d : Int) (w : World) (hq : 0 ≤ q ∧ q < 1000000000) (hq' : 0 ≤ q' ∧ q' < 1000000000) (he : -2305843010 ≤ e ∧ e ≤ 2305843010) (he' : -2305843010 ≤ e' ∧ e' ≤ 2305843010) (hd : -4611686018427387904 ≤ d ∧ d ≤ 4611686018427387904) (hs : q' + 1000000000 * e' + d = q + 1000000000 * e) :
    Calls Try.prog 13 #[.agg (TQ q e), .agg (TQ q' e')] w fun r w' => r = .returned (.int .i64 d) ∧ Below w.heap.size w w' := by
  have r0 : ((w.alloc (.cells (TQ q e) 44)).alloc (.cells (TQ q' e') 44)).heap[w.heap.size]? = some (.cells (TQ q e) 44 (0, 0)) := heap_alloc2_old _ _ _
  have r1 : ((w.alloc (.cells (TQ q e) 44)).alloc (.cells (TQ q' e') 44)).heap[w.heap.size + 1]? = some (.cells (TQ q' e') 44 (0, 0)) := heap_alloc2_new _ _ _
  have a0 : ((w.alloc (.cells (TQ q e) 44)).alloc (.cells (TQ q' e') 44)).cell? ⟨w.heap.size, 0, none⟩ = some (.int .u64 q) := (cell_of_row _ _ 0 _ _ _ r0).trans rfl
  have a1 : ((w.alloc (.cells (TQ q e) 44)).alloc (.cells (TQ q' e') 44)).cell? ⟨w.heap.size, 0 + 1, none⟩ = some (.int .i64 e) := (cell_of_row _ _ 1 _ _ _ r0).trans rfl
  have b0 : ((w.alloc (.cells (TQ q e) 44)).alloc (.cells (TQ q' e') 44)).cell? ⟨w.heap.size + 1, 0, none⟩ = some (.int .u64 q') := (cell_of_row _ _ 0 _ _ _ r1).trans rfl
  have b1 : ((w.alloc (.cells (TQ q e) 44)).alloc (.cells (TQ q' e') 44)).cell? ⟨w.heap.size + 1, 0 + 1, none⟩ = some (.int .i64 e') := (cell_of_row _ _ 1 _ _ _ r1).trans rfl
  have A0 := hide a0; have A1 := hide a1; have B0 := hide b0; have B1 := hide b1
  have HS := hide hs
  clear r0 r1 a0 a1 b0 b1 hs
  have hx : ∃ z, bits .and .u64 q q' = z ∧ 0 ≤ z ∧ z < 1073741824 := by
    obtain ⟨a, rfl⟩ := Int.eq_ofNat_of_zero_le hq.1
    obtain ⟨b, rfl⟩ := Int.eq_ofNat_of_zero_le hq'.1
    refine ⟨_, (bits_nat .u64 64 (by decide) (fun n h0 h1 => by rw [IntKind.wrap_u64]; omega) a b (by omega) (by omega)).1, by omega, ?_⟩
    have := Nat.and_le_left (n := a) (m := b)
    omega
  obtain ⟨z, hz, hz0, hz1⟩ := hx
  have ht := and_top z hz0 hz1
  go_enter Try.func13, Try.ntmps13
  go_wp2_with fail
  refine (sec_any w.heap.size 0 q e _ (by omega) (by omega) A0.out A1.out).mono ?_
  rintro _ _ ⟨rfl, rfl⟩
  go_wp2_with fail
  refine (sec_any (w.heap.size + 1) 0 q' e' _ (by omega) (by omega) B0.out B1.out).mono ?_
  rintro _ _ ⟨rfl, rfl⟩
  go_wp2_with fail
  refine (nsec_any _ q _ (by omega) (by omega) A0.out).mono ?_
  rintro _ _ ⟨rfl, rfl⟩
  go_wp2_with fail
  refine (nsec_any _ q' _ (by omega) (by omega) B0.out).mono ?_
  rintro _ _ ⟨rfl, rfl⟩
  go_wp2_with fail
  rw [show (e - e') * 1000000000 + (q - q') = d from by have := HS.out; omega]
  have hB : Below ((w.alloc (.cells (TQ q e) 44)).alloc (.cells (TQ q' e') 44)).heap.size ((w.alloc (.cells (TQ q e) 44)).alloc (.cells (TQ q' e') 44)) ((w.alloc (.cells (TQ q e) 44)).alloc (.cells (TQ q' e') 44)).drew := (Below.refl _ _).drew
  have hBw : Below w.heap.size w ((w.alloc (.cells (TQ q e) 44)).alloc (.cells (TQ q' e') 44)) := by go_grown
  clear hz ht
  go_region_held3 (fun w' => w'.cell? ⟨w.heap.size, 0, none⟩ = some (.int .u64 q) ∧ w'.cell? ⟨w.heap.size, 1, none⟩ = some (.int .i64 e) ∧ w'.cell? ⟨w.heap.size, 2, none⟩ = some (.pointer none) ∧ w'.cell? ⟨w.heap.size + 1, 0, none⟩ = some (.int .u64 q') ∧ w'.cell? ⟨w.heap.size + 1, 1, none⟩ = some (.int .i64 e') ∧ w'.cell? ⟨w.heap.size + 1, 2, none⟩ = some (.pointer none)) (first | exact two_times q e q' e' w _ hB | exact two_times q e q' e' w _ hB3 | exact two_times q e q' e' w _ hB4)
    (first
      | (go_at_call 10; refine (add_any q' e' d q e _ hq' (by omega) hd hq (by have := HS.out; omega)).mono ?_; rintro _ w3 ⟨rfl, hb3⟩; have hB3 := hB.trans (hb3.mono hB.size))
      | (go_at_call 22; refine (equal_any q e _ hq).mono ?_; rintro _ w4 ⟨rfl, hb4⟩; have hB4 := hB3.trans (hb4.mono hB3.size)))
  go_wp2
  go_ret
  exact ⟨rfl, hBw.trans (hB4.mono hBw.size)⟩
end Go.Proofs.Qxb6632588a
