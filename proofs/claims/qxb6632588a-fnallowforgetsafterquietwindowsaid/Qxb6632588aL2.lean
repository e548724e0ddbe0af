/-
  THE LAW FnAllowForgetsAfterQuietWindow: her walk.
-/
import Derived.Test.Qxb6632588aA5
import Derived.Test.Qxb6632588aL1
namespace Go.Proofs.Qxb6632588a
open Go.RowKit

set_option maxHeartbeats 400000 in
theorem bytes8 (n win t : Int) (a b : Option Addr) (la ca lb cb : Nat) (w : World) (hl : la ≤ 9223372036854775807) (hm : lb ≤ 9223372036854775807) :
    Calls Try.prog 8 #[.int .i64 n, .int .i64 win, .slice a la ca, .int .i64 t, .slice b lb cb] w fun e w' => e = .returned (.bool (decide (la ≤ 1048576 ∧ lb ≤ 1048576 ∧ la + lb ≤ 1048576))) ∧ w' = w := by
  by_cases h : la ≤ 1048576
  · by_cases h2 : lb ≤ 1048576
    · by_cases h3 : (la : Int) + lb ≤ 1048576
      · have h3' : la + lb ≤ 1048576 := by omega
        go_enter Try.func8, Try.ntmps8
        go_wp2
        go_ret
        exact ⟨by simp [h, h2, h3'], rfl⟩
      · go_enter Try.func8, Try.ntmps8
        go_wp2
        go_ret
        exact ⟨by simp; omega, rfl⟩
    · go_enter Try.func8, Try.ntmps8
      go_wp2
      go_ret
      exact ⟨by simp [h2], rfl⟩
  · go_enter Try.func8, Try.ntmps8
    go_wp2
    go_ret
    exact ⟨by simp [h], rfl⟩

/-- Two Limiters with one list of at most p + 1 instants. -/
def Both (w0 : World) (bb : Nat) (n win : Int) (p : Nat) (wr : World) : Prop :=
  ∃ (m : Nat) (f : Nat → Int) (oa ob : Option Nat), Pair w0 w0.heap.size bb n win m f oa ob wr ∧ m ≤ p + 1 ∧ ∀ j, j < m → Ok (f j)
/-- The test 'len(before) > 0 && t-before[len(before)-1] < window'. -/
def QuietIs (k : Nat) (z : Nat → Int) (t win : Int) (v : Value) : Prop := v = .bool true ∨ (v = .bool false ∧ ∀ j, j < k → win ≤ t - z j)

set_option maxHeartbeats 1600000 in
set_option maxRecDepth 20000 in
theorem law2 (n win t : Int) (a b : Option Addr) (la ca lb cb : Nat) (A B : Nat → Addr) (z y : Nat → Int) (w : World) (hl : la ≤ 9223372036854775807) (hl2 : lb ≤ 9223372036854775807) (hS : SI w a la ca A z) (hY : SI w b lb cb B y)
    (hz : ∀ k, k < la → -9223372036854775808 ≤ z k ∧ z k ≤ 9223372036854775807) (hy : ∀ k, k < lb → -9223372036854775808 ≤ y k ∧ y k ≤ 9223372036854775807) :
    Calls Try.prog 4 #[.int .i64 n, .int .i64 win, .slice a la ca, .int .i64 t, .slice b lb cb] w fun e w' => e = .returned (.bool true) ∧ Below w.heap.size w w' := by
  have HZ := hide hz; clear hz
  have HY := hide hy; clear hy
  go_enter Try.func4, Try.ntmps4
  go_wp2_with fail
  refine (bytes8 n win t a b la ca lb cb w hl hl2).mono ?_
  rintro _ w' ⟨rfl, rfl⟩
  by_cases h20 : la ≤ 1048576 ∧ lb ≤ 1048576 ∧ la + lb ≤ 1048576
  · have hd20 : decide (la ≤ 1048576 ∧ lb ≤ 1048576 ∧ la + lb ≤ 1048576) = true := by simp [h20]
    by_cases h16 : la ≤ 65536
    · by_cases h16b : lb ≤ 65536
      · by_cases t1 : 2305843009213693952 < t
        · go_wp2
          go_ret
          exact ⟨rfl, Below.refl _ _⟩
        by_cases t2 : t < -2305843009213693952
        · go_wp2
          go_ret
          exact ⟨rfl, Below.refl _ _⟩
        clear h20
        go_wp2
        go_loopw [11] (fun i wr => Below w'.heap.size w' wr ∧ ∃ k : Nat, k ≤ la ∧ i = .int .i64 k ∧ ∀ j, j < k → Ok (z j) ∧ (0 < j → z (j - 1) ≤ z j)) (fun i _ => (la - intOf i).toNat)
        case atStart => exact ⟨Below.refl _ _, 0, by omega, rfl, fun j hj => by omega⟩
        case round =>
          obtain ⟨hb, k, hk, rfl, hok⟩ := hrel
          have HOK := hide hok; clear hok
          have hS1 := hS.later hb
          have hY1 := hY.later hb
          by_cases hlt : k < la
          · have hi := hS1.idx k hlt
            have hc := hS1.cell k hlt
            by_cases g1 : 2305843009213693952 < z k
            · go_wp2
              go_ret
              exact ⟨rfl, hb⟩
            · by_cases g2 : z k < -2305843009213693952
              · go_wp2
                go_ret
                exact ⟨rfl, hb⟩
              · by_cases hk0 : k = 0
                · have hdk : decide (0 < k) = false := by simp; omega
                  have HK0 := hide hk0; clear hk0
                  go_wp2
                  go_quiet (fail)
                  go_wp2
                  refine ⟨⟨below_drewN hb _, k + 1, by omega, by go_num, fun j hj => ?_⟩, by simp [intOf]; omega⟩
                  by_cases e : j = k
                  · have := HK0.out
                    rw [e]; exact ⟨⟨by omega, by omega⟩, fun h => by omega⟩
                  · exact HOK.out j (by omega)
                · have hi' := hS1.idx (k - 1) (by omega)
                  have hc' := hS1.cell (k - 1) (by omega)
                  rw [show ((k - 1 : Nat) : Int) = (k : Int) - 1 from by omega] at hi'
                  have hpos : decide (0 < k) = true := by simp; omega
                  clear hk0
                  by_cases g3 : z k < z (k - 1)
                  · go_wp2
                    go_quiet (fail)
                    go_wp2
                    go_ret
                    exact ⟨rfl, below_drewN hb _⟩
                  · go_wp2
                    go_quiet (fail)
                    go_wp2
                    refine ⟨⟨below_drewN hb _, k + 1, by omega, by go_num, fun j hj => ?_⟩, by simp [intOf]; omega⟩
                    by_cases e : j = k
                    · rw [e]; exact ⟨⟨by omega, by omega⟩, fun h => by omega⟩
                    · exact HOK.out j (by omega)
          · have hkl : k = la := by omega
            subst hkl
            have hzo : ∀ j, j < k → Ok (z j) := fun j hj => (HOK.out j hj).1
            have hmono : ∀ d q, q + d < k → z q ≤ z (q + d) := by
              intro d
              induction d with
              | zero => intro q _; exact Int.le_refl _
              | succ d ih =>
                intro q hq
                have h1 := ih q (by omega)
                have h2 := (HOK.out (q + (d + 1)) hq).2 (by omega)
                rw [show q + (d + 1) - 1 = q + d from by omega] at h2
                omega
            have HZO := hide hzo; have HM := hide hmono
            clear hzo hmono hlt
            go_upto_region 14 with fail
            go_cut [86] from 72 (fun c wc => wc = wr ∧ QuietIs k z t win c)
            case first =>
              by_cases hk0 : k = 0
              · have hdk : decide (0 < k) = false := by simp; omega
                have HK0 := hide hk0; clear hk0
                go_wp2
                go_meet
                exact ⟨rfl, Or.inr ⟨rfl, fun j hj => by have := HK0.out; omega⟩⟩
              · have hdk : decide (0 < k) = true := by simp; omega
                have hi' := hS1.idx (k - 1) (by omega)
                have hc' := hS1.cell (k - 1) (by omega)
                rw [show ((k - 1 : Nat) : Int) = (k : Int) - 1 from by omega] at hi'
                obtain ⟨o1, o2⟩ := HZO.out (k - 1) (by omega)
                clear hk0
                by_cases g : t - z (k - 1) < win
                · go_wp2
                  go_meet
                  exact ⟨rfl, Or.inl rfl⟩
                · go_wp2
                  go_meet
                  exact ⟨rfl, Or.inr ⟨rfl, fun j hj => by
                    have h1 := HM.out (k - 1 - j) j (by omega)
                    rw [show j + (k - 1 - j) = k - 1 from by omega] at h1
                    omega⟩⟩
            case rest =>
            obtain ⟨rfl, hcq⟩ := hcut
            rcases hcq with rfl | ⟨rfl, hq⟩
            · go_wp2
              go_ret
              exact ⟨rfl, hb⟩
            have HQ := hide hq; clear hq
            go_wp2
            go_loopw [12] (fun i wx => Below wc.heap.size wc wx ∧ ∃ q : Nat, q ≤ lb ∧ i = .int .i64 q ∧ ∀ j, j < q → Ok (y j)) (fun i _ => (lb - intOf i).toNat)
            case atStart => exact ⟨Below.refl _ _, 0, by omega, rfl, fun j hj => by omega⟩
            case round =>
              rename World => wx
              obtain ⟨hbx, q, hq, rfl, hoy⟩ := hrel
              have HOY := hide hoy; clear hoy
              have hY2 := hY1.later hbx
              by_cases hlt : q < lb
              · have hi := hY2.idx q hlt
                have hc := hY2.cell q hlt
                by_cases g1 : 2305843009213693952 < y q
                · go_wp2
                  go_ret
                  exact ⟨rfl, hb.trans (hbx.mono hb.size)⟩
                · by_cases g2 : y q < -2305843009213693952
                  · go_wp2
                    go_ret
                    exact ⟨rfl, hb.trans (hbx.mono hb.size)⟩
                  · by_cases hq0 : q = 0
                    · have hdk : decide (0 < q) = false := by simp; omega
                      have hdi : ((q : Int) == 0) = true := by simp; omega
                      have HK0 := hide hq0; clear hq0
                      by_cases g3 : y q < t
                      · go_wp2
                        go_ret
                        exact ⟨rfl, hb.trans (hbx.mono hb.size)⟩
                      · go_wp2
                        go_quiet (fail)
                        go_wp2
                        refine ⟨⟨below_drewN hbx _, q + 1, by omega, by go_num, fun j hj => ?_⟩, by simp [intOf]; omega⟩
                        by_cases e : j = q
                        · rw [e]; exact ⟨by omega, by omega⟩
                        · exact HOY.out j (by omega)
                    · have hi' := hY2.idx (q - 1) (by omega)
                      have hc' := hY2.cell (q - 1) (by omega)
                      rw [show ((q - 1 : Nat) : Int) = (q : Int) - 1 from by omega] at hi'
                      have hpos : decide (0 < q) = true := by simp; omega
                      have hdi : ((q : Int) == 0) = false := by simp; omega
                      clear hq0
                      by_cases g3 : y q < y (q - 1)
                      · go_wp2
                        go_quiet (fail)
                        go_wp2
                        go_ret
                        exact ⟨rfl, hb.trans ((below_drewN hbx _).mono hb.size)⟩
                      · go_wp2
                        go_quiet (fail)
                        go_wp2
                        refine ⟨⟨below_drewN hbx _, q + 1, by omega, by go_num, fun j hj => ?_⟩, by simp [intOf]; omega⟩
                        by_cases e : j = q
                        · rw [e]; exact ⟨by omega, by omega⟩
                        · exact HOY.out j (by omega)
              · have hql : q = lb := by omega
                subst hql
                clear hlt
                have hbb := hb.trans (hbx.mono hb.size)
                have hS2 := hS1.later hbx
                have hOt : Ok t := ⟨by omega, by omega⟩
                go_wp2_with fail
                refine (new_any n win _).mono ?_
                rintro _ _ ⟨rfl, rfl⟩
                have hL0 := new_lim n win wx (fun _ => 0)
                have hst : One wx wx.heap.size n win z 0 (wx.alloc (.cells (LC n win 0 (.slice none 0 0)) 39)) := ⟨none, 0, fun _ => 0, hL0, Nat.le_refl _, fun j hj => by omega, by go_grown, fun g hg => (by cases hg)⟩
                have HST := hide hst; clear hst hL0
                go_wp2_with fail
                go_loopw [14] (fun i wy => ∃ r : Nat, r ≤ k ∧ i = .int .i64 r ∧ One wx wx.heap.size n win z r wy) (fun i _ => (k - intOf i).toNat)
                case atStart => exact ⟨0, by omega, rfl, HST.out⟩
                case round =>
                  clear HST
                  rename World => wy
                  obtain ⟨r, hr, rfl, og, m, f, hL, hm, hin, hB, hog⟩ := hrel
                  have HIn := hide hin; have HOg := hide hog
                  clear hin hog
                  by_cases hrk : r < k
                  · have hS3 := hS2.later hB
                    have hi := hS3.idx r hrk
                    have hc := hS3.cell r hrk
                    go_wp2_with fail
                    refine (allowAt_any wx.heap.size og n win m f (z r) _ hL (by omega) (fun j hj => by obtain ⟨p, hp, e⟩ := HIn.out j hj; rw [e]; exact HZO.out p (by omega)) (HZO.out r hrk)).mono ?_
                    rintro e w2 hE
                    obtain ⟨⟨rr, rfl⟩, hO⟩ := one_step hm HIn.out hB HOg.out (Nat.le_refl _) hE
                    clear hE hL hi hc
                    have HO := hide hO; clear hO
                    go_wp2_with fail
                    exact ⟨⟨r + 1, by omega, by go_num, HO.out⟩, by simp [intOf]; omega⟩
                  · have hrl : r = k := by omega
                    subst hrl
                    clear hrk
                    go_wp2_with fail
                    refine (allowAt_any wx.heap.size og n win m f t _ hL (by omega) (fun j hj => by obtain ⟨p, hp, e⟩ := HIn.out j hj; rw [e]; exact HZO.out p (by omega)) hOt).mono ?_
                    rintro e w2 hE
                    obtain ⟨rfl, oa, hla, hB2, hoa⟩ := quiet_step hB HOg.out (Nat.le_refl _) (fun j hj => by obtain ⟨p, hp, e⟩ := HIn.out j hj; rw [e]; exact HQ.out p (by omega)) hE
                    clear hE hL
                    go_wp2_with fail
                    refine (new_any n win _).mono ?_
                    rintro _ _ ⟨rfl, rfl⟩
                    have hL0 := new_lim n win w2 (fun _ => 0)
                    go_wp2_with fail
                    refine (allowAt_any w2.heap.size none n win 0 (fun _ => 0) t _ hL0 (by omega) (fun j hj => by omega) hOt).mono ?_
                    rintro e w3 hE
                    obtain ⟨rfl, ob, hP⟩ := pair_start hla hB2 (Nat.le_refl _) hoa hE
                    clear hE hL0 hla hB2 hoa
                    have HP := hide hP; clear hP
                    go_wp2_with fail
                    go_loopw [16, 17, 18] (fun i _ _ wz => ∃ p : Nat, p ≤ q ∧ i = .int .i64 p ∧ Both wx w2.heap.size n win p wz) (fun i _ _ _ => (q - intOf i).toNat)
                    case atStart => exact ⟨0, by omega, rfl, _, _, oa, ob, HP.out, by split <;> omega, fun j _ => hOt⟩
                    case round =>
                      clear HP
                      rename World => wz
                      obtain ⟨p, hp, rfl, m, f, oa, ob, hP, hm, hin⟩ := hrel
                      have HIn := hide hin
                      clear hin
                      by_cases hpq : p < q
                      · have hY3 := hY2.later hP.below
                        have hi := hY3.idx p hpq
                        have hc := hY3.cell p hpq
                        have hOp := HOY.out p hpq
                        go_wp2_with fail
                        refine (allowAt_any wx.heap.size oa n win m f (y p) _ hP.la (by omega) HIn.out hOp).mono ?_
                        rintro e w4 hE
                        obtain ⟨k1, r1, m1, f1, oa1, rfl, hN1, ho1, h41, hl1⟩ := hE.next
                        have hlb := pair_mid hP h41
                        have hB4 := Two.base hP.below h41 hP.below.size hP.ba0 (fun g hg => (hP.ga g hg).1)
                        have hY4 := hY2.later hB4
                        clear hE hi hc
                        have hi := hY4.idx p hpq
                        have hc := hY4.cell p hpq
                        have HN1 := hide hN1; have HO1 := hide ho1; clear hN1 ho1
                        go_wp2_with fail
                        refine (allowAt_any w2.heap.size ob n win m f (y p) _ hlb (by omega) HIn.out hOp).mono ?_
                        rintro e w5 hE
                        obtain ⟨k2, r2, m2, f2, ob1, rfl, hN2, ho2, h42, hl2⟩ := hE.next
                        obtain ⟨rfl, rfl, rfl⟩ := HN1.out.det hN2
                        have hP2 := pair_step hP h41 HO1.out hl1 h42 ho2 hl2
                        have hfin : Both wx w2.heap.size n win (p + 1) w5 := ⟨m1, f1, oa1, ob1, hP2, by have := hN2.mem.1; omega, fun j hj => by
                          rcases hN2.mem.2 j hj with e | ⟨p', hp', e⟩
                          · rw [e]; exact hOp
                          · rw [e]; exact HIn.out p' hp'⟩
                        have HF := hide hfin; clear hfin hP2 hE hi hc hN2 ho2
                        go_wp2_with fail
                        exact ⟨⟨p + 1, by omega, by go_num, HF.out⟩, by simp [intOf]; omega⟩
                      · go_wp2_with fail
                        go_ret
                        exact ⟨rfl, hbb.trans (hP.below.mono hbb.size)⟩
      · go_wp2
        go_ret
        exact ⟨rfl, Below.refl _ _⟩
    · go_wp2
      go_ret
      exact ⟨rfl, Below.refl _ _⟩
  · have hd20 : decide (la ≤ 1048576 ∧ lb ≤ 1048576 ∧ la + lb ≤ 1048576) = false := by simp only [h20, decide_false]
    go_wp2
    go_ret
    exact ⟨rfl, Below.refl _ _⟩
end Go.Proofs.Qxb6632588a
