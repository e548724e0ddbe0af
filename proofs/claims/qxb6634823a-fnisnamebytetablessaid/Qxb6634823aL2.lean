/-
  THE LAW FnIsNameByteTables: her walk.
-/
import Derived.Test.Qxb6634823aL1
import Derived.Great.Walk
import Derived.Deep.DeepCutAuto
import Derived.Deep.CutBlock
namespace Go.Proofs.Qxb6634823a
open Go.RowKit

/-- 256 times false. -/
def Z24 : Array Value := Array.replicate 256 (.bool false)
theorem info24 : (Try.prog.info? 24).map (fun i => i.zero) = some (some (.agg Z24)) := by kernel_rfl
theorem alloc24 (w : World) (old : Value) : (Instr.alloc 24 true old).run Try.prog w = .ok (.pointer (some ⟨w.heap.size, 0, none⟩)) (w.alloc (.cells Z24 24)) := by
  cases hi : Try.prog.info? 24 with
  | none => have := info24; rw [hi] at this; cases this
  | some i =>
    have hz : i.zero = some (.agg Z24) := by have := info24; rw [hi] at this; simpa using this
    simp [Instr.alloc, zeroValue, typeInfo, hi, hz, newVar, newRow, Value.cells]
theorem wpList_alloc24 {ops : Array Oper} {rest : List Oper} {o : Oper} {a : Act} {w : World} {Q : Exit → Act → World → Prop} (hg : o.guard = none) (dst : Option Tmp) (hdst : o.dst = dst) (ho : o.op = .alloc 24)
    (h : wpList Try.prog ops Q rest (a.put dst (.pointer (some ⟨w.heap.size, 0, none⟩))) (w.alloc (.cells Z24 24))) : wpList Try.prog ops Q (o :: rest) a w := by
  refine Great.wpList_runTo hg dst hdst _ _ ?_ h
  unfold execOp
  simp [ho, alloc24]

/-- The one-byte string c is a name. -/
def o1 (c : Nat) : Bool := isN [UInt8.ofNat c]
/-- The byte c may follow an underscore. -/
def f1 (c : Nat) : Bool := isN [95, UInt8.ofNat c]
def cnt (p : Nat → Bool) : Nat → Nat
  | 0 => 0
  | k + 1 => cnt p k + if p k = true then 1 else 0
theorem cnt_le (p : Nat → Bool) (k : Nat) : cnt p k ≤ k := by
  induction k with
  | zero => exact Nat.le_refl _
  | succ k ih => simp only [cnt]; split <;> omega
theorem cnt_o : cnt o1 256 = 53 := by decide +kernel
theorem cnt_f : cnt f1 256 = 64 := by decide +kernel
theorem two_bytes (c d : Nat) : isN [UInt8.ofNat c, UInt8.ofNat d] = (o1 c && f1 d) := by
  rw [show [UInt8.ofNat c, UInt8.ofNat d] = [UInt8.ofNat c] ++ [UInt8.ofNat d] from rfl, isN_append _ _ (by simp), f1, isN_under]
  rfl
theorem lead_follows (c : Nat) (h : o1 c = true) : f1 c = true := by
  rw [f1, isN_under]
  have h' : (nb ((UInt8.ofNat c).toNat : Int) true && true) = true := h
  show (nb ((UInt8.ofNat c).toNat : Int) false && true) = true
  rw [Bool.and_true] at h' ⊢
  have e : nb ((UInt8.ofNat c).toNat : Int) true = lead ((UInt8.ofNat c).toNat : Int) := by simp [nb]
  rw [e] at h'
  rw [nb, h']
  rfl

theorem conv1 (c : Nat) (hc : c < 256) (w : World) : (convert 25 9 (.slice (some ⟨w.heap.size, 0, none⟩) 1 1)).run Try.prog (w.alloc (.cells #[.int .u8 c] 5)) = .ok (.string ⟨#[UInt8.ofNat c]⟩) (w.alloc (.cells #[.int .u8 c] 5)) := by
  have := run_convert_bytes_back (P := Try.prog) (w.alloc (.cells #[.int .u8 c] 5)) 25 9 5 ⟨w.heap.size, 0, none⟩ 1 [UInt8.ofNat c] Try.underlying25 Try.underlying5 Try.underlying9 (fun j hj => by
    obtain rfl : j = 0 := by simpa using hj
    have : c % 256 = c := Nat.mod_eq_of_lt hc
    simp [Addr.add_lit, this])
  exact this
theorem conv2 (c d : Nat) (hc : c < 256) (hd : d < 256) (w : World) : (convert 25 9 (.slice (some ⟨w.heap.size, 0, none⟩) 2 2)).run Try.prog (w.alloc (.cells #[.int .u8 c, .int .u8 d] 5)) = .ok (.string ⟨#[UInt8.ofNat c, UInt8.ofNat d]⟩) (w.alloc (.cells #[.int .u8 c, .int .u8 d] 5)) := by
  have := run_convert_bytes_back (P := Try.prog) (w.alloc (.cells #[.int .u8 c, .int .u8 d] 5)) 25 9 5 ⟨w.heap.size, 0, none⟩ 2 [UInt8.ofNat c, UInt8.ofNat d] Try.underlying25 Try.underlying5 Try.underlying9 (fun j hj => by
    have e1 : c % 256 = c := Nat.mod_eq_of_lt hc
    have e2 : d % 256 = d := Nat.mod_eq_of_lt hd
    have hj' : j < 2 := by simpa using hj
    obtain rfl | rfl : j = 0 ∨ j = 1 := by omega
    · simp [Addr.add_lit, e1]
    · simp [Addr.add_lit, e2])
  exact this

/-- The names of two bytes that start with c, the second below d. -/
def row (c d : Nat) : Nat := cnt (fun q => o1 c && f1 q) d
/-- The names of two bytes whose first lies below c. -/
def rows : Nat → Nat
  | 0 => 0
  | c + 1 => rows c + row c 256
theorem row_next (c d : Nat) : row c (d + 1) = row c d + if (o1 c && f1 d) = true then 1 else 0 := rfl
theorem row_le (c d : Nat) : row c d ≤ d := cnt_le _ _
theorem rows_le (c : Nat) : rows c ≤ 256 * c := by
  induction c with
  | zero => exact Nat.le_refl _
  | succ c ih => have := row_le c 256; simp only [rows]; omega
theorem row_all (c : Nat) : row c 256 = 64 * if o1 c = true then 1 else 0 := by
  unfold row
  cases o1 c with
  | true =>
    rw [show (fun q => true && f1 q) = f1 from funext fun q => Bool.true_and _, cnt_f]
    rfl
  | false =>
    have h : ∀ d, cnt (fun q => false && f1 q) d = 0 := by
      intro d
      induction d with
      | zero => rfl
      | succ d ih =>
        show cnt (fun q => false && f1 q) d + 0 = 0
        rw [ih]
    rw [h]
    rfl
theorem rows_cnt (c : Nat) : rows c = 64 * cnt o1 c := by
  induction c with
  | zero => rfl
  | succ c ih => simp only [rows, cnt]; rw [ih, row_all, Nat.mul_add]
theorem rows_all : rows 256 = 3392 := by rw [rows_cnt, cnt_o]

/-- The two tables, filled up to k. -/
def Tab (w : World) (k : Nat) (wr : World) : Prop :=
  Grown w wr ∧ ∃ C1 C2 : Array Value, wr.heap[w.heap.size]? = some (.cells C1 24 (0, 0)) ∧ wr.heap[w.heap.size + 1]? = some (.cells C2 24 (0, 0)) ∧ C1.size = 256 ∧ C2.size = 256 ∧ ∀ j, j < k → C1[j]? = some (.bool (o1 j)) ∧ C2[j]? = some (.bool (f1 j))

theorem Tab.alloc {w wr : World} {k : Nat} (h : Tab w k wr) (c : Array Value) (t : TypeId) : Tab w k (wr.alloc (.cells c t)) := by
  obtain ⟨hg, C1, C2, h1, h2, h3, h4, h5⟩ := h
  exact ⟨hg.alloc c t, C1, C2, (Below.heap_alloc _ _ _ (Array.getElem?_eq_some_iff.1 h1).1).trans h1, (Below.heap_alloc _ _ _ (Array.getElem?_eq_some_iff.1 h2).1).trans h2, h3, h4, h5⟩
theorem Tab.store {w wr : World} {k : Nat} (h : Tab w k wr) (hk : k < 256) : Tab w (k + 1) ((wr.setCell ⟨w.heap.size, k, none⟩ (.bool (o1 k))).setCell ⟨w.heap.size + 1, k, none⟩ (.bool (f1 k))) := by
  obtain ⟨hg, C1, C2, h1, h2, h3, h4, h5⟩ := h
  refine ⟨(hg.setCell (Nat.le_refl _) _).setCell (Nat.le_succ _) _, C1.setIfInBounds k (.bool (o1 k)), C2.setIfInBounds k (.bool (f1 k)), ?_, ?_, by simpa using h3, by simpa using h4, fun j hj => ?_⟩
  · rw [Below.heap_setCell _ _ _ _ (by show w.heap.size ≠ w.heap.size + 1; omega)]
    exact heap_setCell_same _ _ _ _ _ _ h1
  · refine heap_setCell_same _ _ _ _ _ _ ?_
    rw [Below.heap_setCell _ _ _ _ (by show w.heap.size + 1 ≠ w.heap.size; omega)]
    exact h2
  · by_cases e : j = k
    · subst e
      rw [Array.getElem?_setIfInBounds, if_pos rfl, if_pos (by omega), Array.getElem?_setIfInBounds, if_pos rfl, if_pos (by omega)]
      exact ⟨rfl, rfl⟩
    · rw [Array.getElem?_setIfInBounds_ne (by omega), Array.getElem?_setIfInBounds_ne (by omega)]
      exact h5 j (by omega)
/-- The two places of row k. -/
theorem Tab.places {w wr : World} {k : Nat} (h : Tab w k wr) (j : Nat) (hj : j < 256) : ∃ x1 x2, wr.cell? ⟨w.heap.size, j, none⟩ = some x1 ∧ wr.frozen? ⟨w.heap.size, j, none⟩ = false ∧ wr.cell? ⟨w.heap.size + 1, j, none⟩ = some x2 ∧ wr.frozen? ⟨w.heap.size + 1, j, none⟩ = false := by
  obtain ⟨hg, C1, C2, h1, h2, h3, h4, h5⟩ := h
  exact ⟨C1[j], C2[j], (cell_of_row _ _ _ _ _ _ h1).trans (Array.getElem?_eq_getElem (by omega)), frozen_of_row _ _ _ _ _ h1, (cell_of_row _ _ _ _ _ _ h2).trans (Array.getElem?_eq_getElem (by omega)), frozen_of_row _ _ _ _ _ h2⟩
theorem Tab.reads {w wr : World} {k : Nat} (h : Tab w k wr) (j : Nat) (hj : j < k) : wr.cell? ⟨w.heap.size, j, none⟩ = some (.bool (o1 j)) ∧ wr.cell? ⟨w.heap.size + 1, j, none⟩ = some (.bool (f1 j)) := by
  obtain ⟨hg, C1, C2, h1, h2, h3, h4, h5⟩ := h
  exact ⟨(cell_of_row _ _ _ _ _ _ h1).trans (h5 j hj).1, (cell_of_row _ _ _ _ _ _ h2).trans (h5 j hj).2⟩
theorem Tab.start (w : World) : Tab w 0 ((w.alloc (.cells Z24 24)).alloc (.cells Z24 24)) :=
  ⟨((Grown.refl w).alloc _ _).alloc _ _, Z24, Z24, (Below.heap_alloc _ _ _ (by simp)).trans (heap_alloc_new _ _), heap_alloc2_new _ _ _, by decide +kernel, by decide +kernel, fun j hj => by omega⟩

theorem one_any (c : Nat) (w : World) : Calls Try.prog 6 #[.string ⟨#[UInt8.ofNat c]⟩] w fun e w' => e = .returned (.bool (o1 c)) ∧ w' = w := isName_any _ (by show 1 ≤ _; omega) w
theorem fol_any (c : Nat) (w : World) : Calls Try.prog 6 #[.string ⟨#[95, UInt8.ofNat c]⟩] w fun e w' => e = .returned (.bool (f1 c)) ∧ w' = w := isName_any _ (by show 2 ≤ _; omega) w
theorem two_any (c d : Nat) (w : World) : Calls Try.prog 6 #[.string ⟨#[UInt8.ofNat c, UInt8.ofNat d]⟩] w fun e w' => e = .returned (.bool (o1 c && f1 d)) ∧ w' = w := by
  rw [← two_bytes]
  exact isName_any _ (by show 2 ≤ _; omega) w

set_option maxHeartbeats 1600000 in
set_option maxRecDepth 20000 in
theorem law2 (w : World) : Calls Try.prog 4 #[] w fun e w' => e = .returned (.bool true) ∧ Grown w w' := by
  go_enter Try.func4, Try.ntmps4
  go_wp2_with (first | (show wpList _ _ _ (Oper.mk _ (.alloc 24) _ _ _ _ :: _) _ _; refine wpList_alloc24 rfl _ rfl rfl ?_))
  go_loopw [3, 4, 5, 6, 7] (fun l f c _ _ wr => ∃ k : Nat, k ≤ 256 ∧ c = .int .i64 k ∧ l = .int .i64 (cnt o1 k) ∧ f = .int .i64 (cnt f1 k) ∧ Tab w k wr) (fun _ _ c _ _ _ => (256 - intOf c).toNat)
  case atStart => exact ⟨0, by omega, rfl, rfl, rfl, Tab.start w⟩
  case round =>
    obtain ⟨k, hk, rfl, rfl, rfl, hT⟩ := hrel
    by_cases hlt : k < 256
    · have hw : IntKind.u8.wrap (k : Int) = k := by rw [IntKind.wrap_u8]; omega
      have hcv := conv1 k hlt wr
      go_wp2_with fail
      refine (one_any k _).mono ?_
      rintro _ W ⟨rfl, hW⟩
      have hT1 : Tab w k W := by rw [hW]; exact hT.alloc _ _
      clear hW hcv hT
      have hcv := conv2 95 k (by omega) hlt W
      rw [show UInt8.ofNat 95 = 95 from rfl, show ((95 : Nat) : Int) = 95 from rfl] at hcv
      go_wp2_with fail
      refine (fol_any k _).mono ?_
      rintro _ W2 ⟨rfl, hW⟩
      have hT2 : Tab w k W2 := by rw [hW]; exact hT1.alloc _ _
      clear hW hcv hT1
      obtain ⟨x1, x2, hc1, hf1, hc2, hf2⟩ := hT2.places k hlt
      have HT := hide (hT2.store hlt)
      have hle1 := cnt_le o1 k
      have hle2 := cnt_le f1 k
      have HO : Hid (cnt o1 (k + 1) = cnt o1 k + if o1 k = true then 1 else 0) := rfl
      have HF : Hid (cnt f1 (k + 1) = cnt f1 k + if f1 k = true then 1 else 0) := rfl
      have hlf := lead_follows k
      cases hO : o1 k with
      | true =>
        have hF := hlf hO
        rw [hO, hF] at HT
        rw [hO] at HO
        rw [hF] at HF ⊢
        clear hO hF hlf hT2
        go_wp2_with fail
        exact ⟨⟨k + 1, by omega, by go_num, by rw [HO.out]; go_num, by rw [HF.out]; go_num, HT.out⟩, by simp [intOf]; omega⟩
      | false =>
        cases hF : f1 k with
        | true =>
          rw [hO, hF] at HT
          rw [hO] at HO
          rw [hF] at HF
          clear hO hF hlf hT2
          go_wp2_with fail
          exact ⟨⟨k + 1, by omega, by go_num, by rw [HO.out]; go_num, by rw [HF.out]; go_num, HT.out⟩, by simp [intOf]; omega⟩
        | false =>
          rw [hO, hF] at HT
          rw [hO] at HO
          rw [hF] at HF
          clear hO hF hlf hT2
          go_wp2_with fail
          exact ⟨⟨k + 1, by omega, by go_num, by rw [HO.out]; go_num, by rw [HF.out]; go_num, HT.out⟩, by simp [intOf]; omega⟩
    · have hkk : k = 256 := by omega
      subst hkk
      rw [cnt_o, cnt_f, show ((256 : Nat) : Int) = 256 from rfl, show ((53 : Nat) : Int) = 53 from rfl, show ((64 : Nat) : Int) = 64 from rfl]
      go_wp2_with fail
      go_loopw [8, 9, 10, 11] (fun t c _ _ wx => ∃ k : Nat, k ≤ 256 ∧ c = .int .i64 k ∧ t = .int .i64 (rows k) ∧ Tab w 256 wx) (fun _ c _ _ _ => (256 - intOf c).toNat)
      case atStart => exact ⟨0, by omega, rfl, rfl, hT⟩
      case round =>
        clear hT
        rename World => wx
        obtain ⟨k, hk2, rfl, rfl, hT⟩ := hrel
        have hle1 := rows_le k
        by_cases hlt2 : k < 256
        · have hd2 : decide ((k : Int) < 256) = true := by simp; omega
          have hd3 : (k : Int) < 256 := by omega
          go_wp2_with fail
          go_loopw [8, 10, 11] (fun t d _ wy => ∃ q : Nat, q ≤ 256 ∧ d = .int .i64 q ∧ t = .int .i64 (rows k + row k q : Nat) ∧ Tab w 256 wy) (fun _ d _ _ => (256 - intOf d).toNat)
          case atStart => exact ⟨0, by omega, rfl, rfl, hT⟩
          case round =>
            clear hT
            rename World => wy
            obtain ⟨q, hq, rfl, rfl, hT⟩ := hrel
            have hle2 := row_le k q
            have HR : Hid (row k (q + 1) = row k q + if (o1 k && f1 q) = true then 1 else 0) := row_next k q
            by_cases hlt3 : q < 256
            · have hw1 : IntKind.u8.wrap (k : Int) = k := by rw [IntKind.wrap_u8]; omega
              have hw2 : IntKind.u8.wrap (q : Int) = q := by rw [IntKind.wrap_u8]; omega
              have hcv := conv2 k q hlt2 hlt3 wy
              go_wp2_with fail
              refine (two_any k q _).mono ?_
              rintro _ W ⟨rfl, hW⟩
              have hT1 : Tab w 256 W := by rw [hW]; exact hT.alloc _ _
              clear hW hcv hT
              have hr1 := (hT1.reads k hlt2).1
              have hr2 := (hT1.reads q hlt3).2
              have HT := hide hT1; clear hT1
              cases hO : o1 k with
              | true =>
                rw [hO] at hr1 HR
                cases hF : f1 q with
                | true =>
                  rw [hF] at hr2 HR
                  clear hO hF
                  go_wp2_with fail
                  exact ⟨⟨q + 1, by omega, by go_num, by rw [HR.out]; go_num, HT.out⟩, by simp [intOf]; omega⟩
                | false =>
                  rw [hF] at hr2 HR
                  clear hO hF
                  go_wp2_with fail
                  exact ⟨⟨q + 1, by omega, by go_num, by rw [HR.out]; go_num, HT.out⟩, by simp [intOf]; omega⟩
              | false =>
                rw [hO] at hr1 HR
                clear hO
                go_wp2_with fail
                exact ⟨⟨q + 1, by omega, by go_num, by rw [HR.out]; simp, HT.out⟩, by simp [intOf]; omega⟩
            · have hqq : q = 256 := by omega
              subst hqq
              go_wp2_with fail
              exact ⟨⟨k + 1, by omega, by go_num, rfl, hT⟩, by simp [intOf]; omega⟩
        · have hkk : k = 256 := by omega
          subst hkk
          rw [rows_all, show ((256 : Nat) : Int) = 256 from rfl, show ((3392 : Nat) : Int) = 3392 from rfl]
          go_wp2_with fail
          go_ret
          exact ⟨rfl, hT.1⟩
end Go.Proofs.Qxb6634823a
