/-
  THE LAW FnAllowMatchesSlidingWindowCount: her walk.
-/
import Derived.Test.Qxb6632588aA4
namespace Go.Proofs.Qxb6632588a
open Go.RowKit

/-- The slice (a, n, cap) of int64 holds z 0 .. z (n-1) in the world w: A k is the place of element k. -/
structure SI (w : World) (a : Option Addr) (n cap : Nat) (A : Nat → Addr) (z : Nat → Int) : Prop where
  idx : ∀ (k : Nat), k < n → ∀ w', (Instr.indexAt 22 (.slice a n cap) (.int .i64 k)).run Try.prog w' = .ok (.pointer (some (A k))) w'
  cell : ∀ (k : Nat), k < n → w.cell? (A k) = some (.int .i64 (z k))
theorem SI.later {w w' : World} {a : Option Addr} {n cap : Nat} {A : Nat → Addr} {z : Nat → Int} (h : SI w a n cap A z) (hb : Below w.heap.size w w') : SI w' a n cap A z :=
  ⟨h.idx, fun k hk => (hb.cell (block_lt_of_cell (h.cell k hk))).trans (h.cell k hk)⟩

set_option maxHeartbeats 400000 in
theorem bytes5 (n win : Int) (a : Option Addr) (len cap : Nat) (w : World) (hl : len ≤ 9223372036854775807) :
    Calls Try.prog 5 #[.int .i64 n, .int .i64 win, .slice a len cap] w fun e w' => e = .returned (.bool (decide (len ≤ 1048576))) ∧ w' = w := by
  by_cases h : len ≤ 1048576
  · go_enter Try.func5, Try.ntmps5
    go_wp2
    go_ret
    exact ⟨by simp [h], rfl⟩
  · go_enter Try.func5, Try.ntmps5
    go_wp2
    go_ret
    exact ⟨by simp [h], rfl⟩

theorem info4 : (Try.prog.info? 4).map (fun i => (i.zero, i.size, i.bytes)) = some (some (.bool false), 1, 1) := by kernel_rfl
/-- n times false. -/
def ZB (n : Nat) : Array Value := madeCells #[.bool false] n
theorem ZB_size (n : Nat) : (ZB n).size = n := size_madeCells _ _
theorem make26 (n : Nat) (hn : n ≤ 1048576) (w : World) : (Instr.makeSlice 26 (.int .i64 n) (.int .i64 n)).run Try.prog w = .ok (.slice (some ⟨w.heap.size, 0, none⟩) n n) (w.alloc (.cells (ZB n) 4)) := by
  obtain ⟨i, hi, hz0, hz1, hz2⟩ := info_parts info4
  have := run_make (P := Try.prog) w 26 4 i _ Try.underlying26 hi hz0 .i64 .i64 n n (by omega) (by omega) (by rw [hz2]; omega) (by omega)
  rw [hz1] at this
  simpa [ZB, Value.cells] using this

/-- What holds at the head of the main loop's round i. -/
def Inv (w0 : World) (b kb : Nat) (n win : Int) (z : Nat → Int) (len i : Nat) (kept : Nat → Bool) (wr : World) : Prop :=
  ∃ (og : Option Nat) (m : Nat) (f : Nat → Int) (C : Array Value), Lim wr b og n win m f ∧ m ≤ i ∧ (∀ j j', j ≤ j' → j' < m → f j ≤ f j') ∧ (∀ j, j < m → ∃ q, q < i ∧ f j = z q) ∧
    (∀ T, (∀ q, q < i → z q ≤ T) → cntK kept z win T i = cntF f win T m) ∧ Below w0.heap.size w0 wr ∧ (∀ g, og = some g → w0.heap.size ≤ g ∧ g ≠ kb) ∧ wr.heap[kb]? = some (.cells C 4 (0, 0)) ∧ C.size = len ∧ ∀ j, j < i → C[j]? = some (.bool (kept j))

/-- A round, in plain numbers: what Allow answered is what the law reckons; and the next round's head. -/
theorem inv_step (w0 : World) (b kb : Nat) (n win : Int) (z : Nat → Int) (i : Nat) (kept : Nat → Bool) (wr : World) (og : Option Nat) (m : Nat) (f : Nat → Int) (C : Array Value) (hm : m ≤ i)
    (hsort : ∀ j j', j ≤ j' → j' < m → f j ≤ f j') (hin : ∀ j, j < m → ∃ q, q < i ∧ f j = z q) (hcnt : ∀ T, (∀ q, q < i → z q ≤ T) → cntK kept z win T i = cntF f win T m) (hB : Below w0.heap.size w0 wr)
    (hog : ∀ g, og = some g → w0.heap.size ≤ g ∧ g ≠ kb) (hk : wr.heap[kb]? = some (.cells C 4 (0, 0))) (hb0 : w0.heap.size ≤ b) (hkb : b ≠ kb) (hT : ∀ q, q < i → z q ≤ z i)
    (e : Ending) (w' : World) (hE : AllowEnds b og n win m f (z i) wr e w') :
    e = .returned (.bool (decide ((cntK kept z win (z i) i : Int) < n))) ∧ ∃ (og' : Option Nat) (m' : Nat) (f' : Nat → Int), Lim w' b og' n win m' f' ∧ m' ≤ i + 1 ∧ (∀ j j', j ≤ j' → j' < m' → f' j ≤ f' j') ∧ (∀ j, j < m' → ∃ q, q < i + 1 ∧ f' j = z q) ∧
      (∀ T, (∀ q, q < i + 1 → z q ≤ T) → cntK (fun j => if j = i then decide ((cntK kept z win (z i) i : Int) < n) else kept j) z win T (i + 1) = cntF f' win T m') ∧ Below w0.heap.size w0 w' ∧ (∀ g, og' = some g → w0.heap.size ≤ g ∧ g ≠ kb) ∧
      w'.heap[kb]? = some (.cells C 4 (0, 0)) := by
  obtain ⟨k, og', hkm, h1, h2, h3, h4, h5⟩ := hE
  have hkl : kb < wr.heap.size := (Array.getElem?_eq_some_iff.1 hk).1
  have hc : cntK kept z win (z i) i = m - k := by
    rw [hcnt _ hT, show m = k + (m - k) from by omega, cntF_drop f win (z i) k (m - k) h1]
    rw [cntF_all _ _ _ _ (fun j hj => ?_)]
    · omega
    · have := hsort k (k + j) (by omega) (by omega)
      have := h2 (by omega)
      show z i - f (k + j) < win
      omega
  have hog' : ∀ g, og' = some g → w0.heap.size ≤ g ∧ g ≠ kb := by
    intro g hg
    rcases h3 with e | ⟨g', e, hg'⟩
    · exact hog g (by rw [← e]; exact hg)
    · rw [e] at hg; cases hg
      exact ⟨Nat.le_trans hB.size hg', by omega⟩
  have hB' : Below w0.heap.size w0 w' := Two.base hB h4 hB.size hb0 (fun g hg => (hog g hg).1)
  have hk' : w'.heap[kb]? = some (.cells C 4 (0, 0)) := (h4.block kb hkl (fun e => hkb e.symm) (fun e => (hog kb e.symm).2 rfl)).trans hk
  have hbase : ∀ T, (∀ q, q < i + 1 → z q ≤ T) → cntK kept z win T i = cntF (fun j => f (k + j)) win T (m - k) := by
    intro T hTT
    have hzi := hTT i (by omega)
    rw [hcnt T (fun q hq => hTT q (by omega)), show m = k + (m - k) from by omega, cntF_drop f win T k (m - k) (fun j hj => by have := h1 j hj; omega)]
    congr 1
    omega
  have hkc : ∀ T, cntK (fun j => if j = i then decide ((cntK kept z win (z i) i : Int) < n) else kept j) z win T i = cntK kept z win T i := fun T => cntK_congr _ _ _ _ _ _ (fun j hj => by rw [if_neg (by omega)])
  rcases h5 with ⟨rfl, hn, hl⟩ | ⟨rfl, hn, hl⟩
  · have hd : ((cntK kept z win (z i) i : Int) < n) := by rw [hc]; omega
    refine ⟨by simp [hd], og', m - k + 1, _, hl, by omega, fun j j' hjj hj' => ?_, fun j hj => ?_, fun T hTT => ?_, hB', hog', hk'⟩
    · by_cases a1 : j' < m - k
      · rw [if_pos a1, if_pos (by omega)]; exact hsort _ _ (by omega) (by omega)
      · rw [if_neg a1]
        by_cases a2 : j < m - k
        · rw [if_pos a2]
          obtain ⟨q, hq, e⟩ := hin (k + j) (by omega)
          rw [e]; exact hT q hq
        · rw [if_neg a2]; omega
    · by_cases a1 : j < m - k
      · obtain ⟨q, hq, e⟩ := hin (k + j) (by omega)
        exact ⟨q, by omega, by rw [if_pos a1]; exact e⟩
      · exact ⟨i, by omega, by rw [if_neg a1]⟩
    · simp only [cntK, cntF]
      rw [hkc, hbase T hTT, cntF_congr (fun j => if j < m - k then f (k + j) else z i) (fun j => f (k + j)) win T (m - k) (fun j hj => by rw [if_pos hj])]
      simp [hd]
  · have hd : ¬ ((cntK kept z win (z i) i : Int) < n) := by rw [hc]; omega
    refine ⟨by simp [hd], og', m - k, _, hl, by omega, fun j j' hjj hj' => hsort _ _ (by omega) (by omega), fun j hj => ?_, fun T hTT => ?_, hB', hog', hk'⟩
    · obtain ⟨q, hq, e⟩ := hin (k + j) (by omega)
      exact ⟨q, by omega, e⟩
    · simp only [cntK]
      rw [hkc, hbase T hTT]
      simp [hd]

/-- The round's end: the answer is written down. -/
theorem inv_next (w0 : World) (b kb : Nat) (n win : Int) (z : Nat → Int) (len i : Nat) (kept' : Nat → Bool) (wi : World) (og : Option Nat) (m : Nat) (f : Nat → Int) (C : Array Value) (hL : Lim wi b og n win m f) (hm : m ≤ i + 1)
    (hsort : ∀ j j', j ≤ j' → j' < m → f j ≤ f j') (hin : ∀ j, j < m → ∃ q, q < i + 1 ∧ f j = z q) (hcnt : ∀ T, (∀ q, q < i + 1 → z q ≤ T) → cntK kept' z win T (i + 1) = cntF f win T m) (hB : Below w0.heap.size w0 wi)
    (hog : ∀ g, og = some g → w0.heap.size ≤ g ∧ g ≠ kb) (hk : wi.heap[kb]? = some (.cells C 4 (0, 0))) (hCs : C.size = len) (hCj : ∀ j, j < i → C[j]? = some (.bool (kept' j))) (hkb0 : w0.heap.size ≤ kb) (hkb : b ≠ kb) (hi : i < len) :
    Inv w0 b kb n win z len (i + 1) kept' (wi.setCell ⟨kb, i, none⟩ (.bool (kept' i))) := by
  refine ⟨og, m, f, C.setIfInBounds i (.bool (kept' i)), hL.later fun k hkl ho => Below.heap_setCell _ _ _ _ ?_, hm, hsort, hin, hcnt, hB.setCell hkb0 _, hog, heap_setCell_same _ _ _ _ _ _ hk, by simpa using hCs, fun j hj => ?_⟩
  · rcases ho with rfl | ho
    · exact hkb
    · exact (hog k ho.symm).2
  · by_cases e : j = i
    · rw [e, Array.getElem?_setIfInBounds, if_pos rfl, if_pos (by omega)]
    · rw [Array.getElem?_setIfInBounds_ne (by omega)]; exact hCj j (by omega)

set_option maxHeartbeats 1600000 in
set_option maxRecDepth 20000 in
theorem law1 (n win : Int) (a : Option Addr) (len cap : Nat) (A : Nat → Addr) (z : Nat → Int) (w : World) (hl : len ≤ 9223372036854775807) (hS : SI w a len cap A z) (hz : ∀ k, k < len → -9223372036854775808 ≤ z k ∧ z k ≤ 9223372036854775807) :
    Calls Try.prog 3 #[.int .i64 n, .int .i64 win, .slice a len cap] w fun e w' => e = .returned (.bool true) ∧ Below w.heap.size w w' := by
  have HZ := hide hz; clear hz
  go_enter Try.func3, Try.ntmps3
  go_wp2_with fail
  refine (bytes5 n win a len cap w hl).mono ?_
  rintro _ w' ⟨rfl, rfl⟩
  by_cases h20 : len ≤ 1048576
  · by_cases h12 : len ≤ 4096
    · go_wp2
      go_loopw [7] (fun i wr => Below w'.heap.size w' wr ∧ ∃ k : Nat, k ≤ len ∧ i = .int .i64 k ∧ ∀ j, j < k → Ok (z j) ∧ (0 < j → z (j - 1) ≤ z j)) (fun i _ => (len - intOf i).toNat)
      case atStart => exact ⟨Below.refl _ _, 0, by omega, rfl, fun j hj => by omega⟩
      case round =>
        obtain ⟨hb, k, hk, rfl, hok⟩ := hrel
        have HOK := hide hok; clear hok
        have hS1 := hS.later hb
        by_cases hlt : k < len
        · have hi := hS1.idx k hlt
          have hc := hS1.cell k hlt
          by_cases g1 : 2305843009213693952 < z k
          · go_wp2
            go_ret
            exact ⟨rfl, hb⟩
          · by_cases g2 : z k < -2305843009213693952
            · go_wp2
              go_ret
              exact ⟨rfl, hb⟩
            · by_cases hk0 : k = 0
              · have hdk : decide (0 < k) = false := by simp; omega
                have HK0 := hide hk0; clear hk0
                go_wp2
                go_quiet (fail)
                go_wp2
                refine ⟨⟨below_drewN hb _, k + 1, by omega, by go_num, fun j hj => ?_⟩, by simp [intOf]; omega⟩
                by_cases e : j = k
                · have := HK0.out
                  rw [e]; exact ⟨⟨by omega, by omega⟩, fun h => by omega⟩
                · exact HOK.out j (by omega)
              · have hi' := hS1.idx (k - 1) (by omega)
                have hc' := hS1.cell (k - 1) (by omega)
                rw [show ((k - 1 : Nat) : Int) = (k : Int) - 1 from by omega] at hi'
                have hpos : decide (0 < k) = true := by simp; omega
                clear hk0
                by_cases g3 : z k < z (k - 1)
                · go_wp2
                  go_quiet (fail)
                  go_wp2
                  go_ret
                  exact ⟨rfl, below_drewN hb _⟩
                · go_wp2
                  go_quiet (fail)
                  go_wp2
                  refine ⟨⟨below_drewN hb _, k + 1, by omega, by go_num, fun j hj => ?_⟩, by simp [intOf]; omega⟩
                  by_cases e : j = k
                  · rw [e]; exact ⟨⟨by omega, by omega⟩, fun h => by omega⟩
                  · exact HOK.out j (by omega)
        · have hkl : k = len := by omega
          subst hkl
          have hmk := make26 k h20
          have hzo : ∀ j, j < k → Ok (z j) := fun j hj => (HOK.out j hj).1
          have hmono : ∀ d q, q + d < k → z q ≤ z (q + d) := by
            intro d
            induction d with
            | zero => intro q _; exact Int.le_refl _
            | succ d ih =>
              intro q hq
              have h1 := ih q (by omega)
              have h2 := (HOK.out (q + (d + 1)) hq).2 (by omega)
              rw [show q + (d + 1) - 1 = q + d from by omega] at h2
              omega
          have HZO := hide hzo; have HM := hide hmono
          clear hzo hmono
          go_wp2_with fail
          refine (new_any n win _).mono ?_
          rintro _ _ ⟨rfl, rfl⟩
          have hL0 := new_lim n win wr (fun _ => 0)
          have hwb : Below wr.heap.size wr (wr.alloc (.cells (LC n win 0 (.slice none 0 0)) 39)) := by go_grown
          have hst : Inv wr wr.heap.size (wr.heap.size + 1) n win z k 0 (fun _ => false) ((wr.alloc (.cells (LC n win 0 (.slice none 0 0)) 39)).alloc (.cells (ZB k) 4)) :=
            ⟨none, 0, fun _ => 0, ZB k, hL0.later (fun k' hk' _ => Below.heap_alloc _ _ _ hk'), Nat.le_refl _, fun j j' _ hj => by omega, fun j hj => by omega, fun T _ => rfl, by go_grown, fun g hg => (by cases hg), heap_alloc2_new _ _ _, ZB_size k, fun j hj => by omega⟩
          have HST := hide hst; clear hst hL0 hwb
          go_wp2_with fail
          clear hmk
          go_loopw [10] (fun i wx => ∃ (q : Nat) (kept : Nat → Bool), q ≤ k ∧ i = .int .i64 q ∧ Inv wr wr.heap.size (wr.heap.size + 1) n win z k q kept wx) (fun i _ => (k - intOf i).toNat)
          case atStart => exact ⟨0, _, by omega, rfl, HST.out⟩
          case round =>
            clear HST
            rename World => wx
            obtain ⟨q, kept, hq, rfl, og, m, f, C, hL, hm, hsort, hin, hcnt, hB, hog, hkr, hCs, hCj⟩ := hrel
            have HSo := hide hsort; have HIn := hide hin; have HCn := hide hcnt; have HOg := hide hog; have HKr := hide hkr; have HCj := hide hCj
            clear hsort hin hcnt hog hkr hCj
            by_cases hql : q < k
            · have hS2 := hS1.later hB
              have hi := hS2.idx q hql
              have hc := hS2.cell q hql
              go_wp2_with fail
              refine (allowAt_any wr.heap.size og n win m f (z q) _ hL (by omega) (fun j hj => by obtain ⟨r, hr, e⟩ := HIn.out j hj; rw [e]; exact HZO.out r (by omega)) (HZO.out q hql)).mono ?_
              rintro e w2 hE
              obtain ⟨rfl, og', m', f', hL2, hm2, hsort2, hin2, hcnt2, hB2, hog2, hkr2⟩ := inv_step wr wr.heap.size (wr.heap.size + 1) n win z q kept wx og m f C hm HSo.out HIn.out HCn.out hB HOg.out HKr.out (Nat.le_refl _) (by omega) (fun r hr => by have := HM.out (q - r) r (by omega); rwa [show r + (q - r) = q from by omega] at this) e w2 hE
              have HSo2 := hide hsort2; have HIn2 := hide hin2; have HCn2 := hide hcnt2; have HOg2 := hide hog2; have HKr2 := hide hkr2
              clear hsort2 hin2 hcnt2 hog2 hkr2 hE hi hc hS2 hL HSo HIn HCn HOg HKr
              go_wp2_with fail
              go_loopw [12, 13] (fun cv jv wi => Below w2.heap.size w2 wi ∧ ∃ j : Nat, j ≤ q ∧ jv = .int .i64 j ∧ cv = .int .i64 (cntK kept z win (z q) j)) (fun _ j _ => (q - intOf j).toNat)
              case atStart => exact ⟨Below.refl _ _, 0, by omega, rfl, rfl⟩
              case round =>
                rename World => wi
                obtain ⟨hbi, j, hj, rfl, rfl⟩ := hrel
                have hkri := (hbi.block _ (Array.getElem?_eq_some_iff.1 HKr2.out).1).trans HKr2.out
                have HKri := hide hkri; clear hkri
                have hcle := cntK_le kept z win (z q) j
                by_cases hjq : j < q
                · have hS3 := (hS1.later hB2).later hbi
                  have hi := hS3.idx q hql
                  have hc := hS3.cell q hql
                  have hi' := hS3.idx j (by omega)
                  have hc' := hS3.cell j (by omega)
                  have hkc : wi.cell? ⟨wr.heap.size + 1, j, none⟩ = some (.bool (kept j)) := (cell_of_row _ _ _ _ _ _ HKri.out).trans (HCj.out j hjq)
                  obtain ⟨o1, o2⟩ := HZO.out q hql
                  obtain ⟨o3, o4⟩ := HZO.out j (by omega)
                  have HE : Hid (cntK kept z win (z q) (j + 1) = cntK kept z win (z q) j + if kept j = true ∧ z q - z j < win then 1 else 0) := rfl
                  have hjk : (j : Int) < (k : Int) := by omega
                  cases hkj : kept j with
                  | false =>
                    rw [hkj] at hkc
                    have HKJ := hide hkj; clear hkj
                    go_wp2
                    go_quiet (fail)
                    go_wp2
                    refine ⟨⟨below_drewN hbi _, j + 1, by omega, by go_num, ?_⟩, by simp [intOf]; omega⟩
                    rw [HE.out, HKJ.out]; simp
                  | true =>
                    rw [hkj] at hkc
                    have HKJ := hide hkj; clear hkj
                    by_cases hd : z q - z j < win
                    · go_wp2
                      go_quiet (fail)
                      go_wp2
                      refine ⟨⟨below_drewN hbi _, j + 1, by omega, by go_num, ?_⟩, by simp [intOf]; omega⟩
                      rw [HE.out, HKJ.out]; simp [hd]
                    · go_wp2
                      go_quiet (fail)
                      go_wp2
                      refine ⟨⟨below_drewN hbi _, j + 1, by omega, by go_num, ?_⟩, by simp [intOf]; omega⟩
                      have hdn : ¬ ((true : Bool) = true ∧ z q - z j < win) := fun h => by have := h.2; omega
                      rw [HE.out, HKJ.out, if_neg hdn]; rfl
                · have hjq' : j = q := by omega
                  subst hjq'
                  obtain ⟨kept', hk'⟩ : ∃ kept' : Nat → Bool, kept' = fun r => if r = j then decide ((cntK kept z win (z j) j : Int) < n) else kept r := ⟨_, rfl⟩
                  have hbw := hB2.trans (hbi.mono hB2.size)
                  have hCj' : ∀ r, r < j → C[r]? = some (.bool (kept' r)) := fun r hr => by rw [hk']; show _ = some (Value.bool (if r = j then _ else kept r)); rw [if_neg (by omega)]; exact HCj.out r hr
                  have hLi : Lim wi wr.heap.size og' n win m' f' := hL2.later fun r hr _ => hbi.block r hr
                  have hfin := inv_next wr wr.heap.size (wr.heap.size + 1) n win z k j kept' wi og' m' f' C hLi hm2 HSo2.out HIn2.out (by rw [hk']; exact HCn2.out) hbw HOg2.out HKri.out hCs hCj' (by omega) (by omega) hql
                  have hkc : wi.cell? ⟨wr.heap.size + 1, j, none⟩ = C[j]? := cell_of_row _ _ _ _ _ _ HKri.out
                  have hkf := frozen_of_row _ (wr.heap.size + 1) j _ _ HKri.out
                  obtain ⟨x, hx⟩ : ∃ x, C[j]? = some x := ⟨C[j], Array.getElem?_eq_getElem (by omega)⟩
                  rw [hx] at hkc
                  have hjk : (j : Int) < (k : Int) := by omega
                  clear hx hCj'
                  by_cases hd : ((cntK kept z win (z j) j : Int) < n)
                  · have ek : kept' j = true := by rw [hk']; simp [hd]
                    rw [ek] at hfin
                    have HF := hide hfin; clear hfin ek hk'
                    go_wp2
                    exact ⟨⟨j + 1, kept', by omega, by go_num, HF.out⟩, by simp [intOf]; omega⟩
                  · have ek : kept' j = false := by rw [hk']; simp [hd]
                    have hdd : decide ((cntK kept z win (z j) j : Int) < n) = false := by simp [hd]
                    rw [ek] at hfin
                    have HF := hide hfin; clear hfin ek hk'
                    go_wp2
                    exact ⟨⟨j + 1, kept', by omega, by go_num, HF.out⟩, by simp [intOf]; omega⟩
            · go_wp2
              go_ret
              exact ⟨rfl, hb.trans (hB.mono hb.size)⟩
    · go_wp2
      go_ret
      exact ⟨rfl, Below.refl _ _⟩
  · go_wp2
    go_ret
    exact ⟨rfl, Below.refl _ _⟩
end Go.Proofs.Qxb6632588a
