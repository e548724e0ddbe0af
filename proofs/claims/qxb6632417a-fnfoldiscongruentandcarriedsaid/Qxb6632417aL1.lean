/-
  THE LAW FnFoldIsCongruentAndCarried: her walk.
-/
import Derived.Test.Qxb6632417aW7
import Derived.Test.Qxb6632417aEq
import Derived.Deep.RegionWith
import Derived.Deep.DeepCutAuto
import Derived.BigQuiet
import Derived.Deep.QuietTactic
namespace Go.Proofs.Qxb6632417a
open Go.RowKit

/-- What the law's own blocks hold once 'want' is there. -/
structure Mem1 (w : World) (t t' r : Nat → Int) (X : Int) (br bw : Nat) (wr : World) : Prop where
  below : Below w.heap.size w wr
  tt : Row16 wr w.heap.size t'
  inn : Row16 wr (w.heap.size + 1) t
  rr : Row8 25 wr br r
  want : Row8 25 wr bw (W8 X)
theorem Mem1.later {w : World} {t t' r : Nat → Int} {X : Int} {br bw : Nat} {wr w' : World} (h : Mem1 w t t' r X br bw wr) (hb : Below wr.heap.size wr w') : Mem1 w t t' r X br bw w' :=
  ⟨h.below.trans (hb.mono h.below.size), h.tt.below hb h.tt.lt, h.inn.below hb h.inn.lt, h.rr.below hb h.rr.lt, h.want.below hb h.want.lt⟩
theorem Mem1.drew {w : World} {t t' r : Nat → Int} {X : Int} {br bw : Nat} {wr : World} (h : Mem1 w t t' r X br bw wr) : Mem1 w t t' r X br bw wr.drew :=
  ⟨h.below.drew, h.tt.drew, h.inn.drew, h.rr.drew, h.want.drew⟩

theorem Mem1.setNew {w : World} {t t' r : Nat → Int} {X : Int} {br bw : Nat} {wr : World} (h : Mem1 w t t' r X br bw wr) (a : Addr) (v : Value) (h0 : w.heap.size + 1 < a.block) (h1 : br < a.block) (h2 : bw < a.block) : Mem1 w t t' r X br bw (wr.setCell a v) :=
  ⟨h.below.setCell (by omega) _, h.tt.setOther _ _ (by omega), h.inn.setOther _ _ (by omega), h.rr.setOther _ _ (by omega), h.want.setOther _ _ (by omega)⟩

set_option maxHeartbeats 1600000 in
set_option maxRecDepth 20000 in
theorem law1_some (t : Nat → Int) (b off : Nat) (w : World) (hc : ∀ j, j < 16 → w.cell? ⟨b, off + j, none⟩ = some (.int .u64 (t j))) (ht : ∀ j, j < 16 → 0 ≤ t j ∧ t j ≤ 18446744073709551615) :
    Calls Try.prog 3 #[.pointer (some ⟨b, off, none⟩)] w fun e w' => e = .returned (.bool true) ∧ Below w.heap.size w w' := by
  have HC := hide hc; clear hc
  have HT := hide ht; clear ht
  go_enter Try.func3, Try.ntmps3
  go_wp2
  go_loop [3] (fun i => ∃ k : Nat, k ≤ 15 ∧ i = .int .i64 k ∧ ∀ j, j < k → t j ≤ 72057594037927935) (fun i => (15 - intOf i).toNat)
  case atStart => exact ⟨0, by omega, rfl, fun j hj => by omega⟩
  case round =>
    obtain ⟨k, hk, rfl, hle⟩ := hrel
    have HL := hide hle; clear hle
    by_cases hlt : k < 15
    · have hck := HC.out k (by omega)
      go_wp2
      · go_ret
        exact ⟨rfl, Below.refl _ _⟩
      · refine ⟨⟨k + 1, by omega, by go_num, fun j hj => ?_⟩, by simp [intOf]; omega⟩
        by_cases e : j = k
        · rw [e]; assumption
        · exact HL.out j (by omega)
    · have hk15 : k = 15 := by omega
      subst hk15
      have hck := HC.out 15 (by omega)
      by_cases h15 : t 15 < 1152921504606846976
      · have hd : Dom t := ⟨fun j hj => ⟨(HT.out j (by omega)).1, HL.out j hj⟩, (HT.out 15 (by omega)).1, h15⟩
        have hran : w.rangeAt b off (C16 t).toList := by
          intro j v hv
          have hj : j < 16 := by have := (List.getElem?_eq_some_iff.1 hv).1; simpa using this
          rw [HC.out j hj, ← hv]
          exact (lt16 (P := fun j => (C16 t).toList[j]? = some (.int .u64 (t j))) rfl rfl rfl rfl rfl rfl rfl rfl rfl rfl rfl rfl rfl rfl rfl rfl j hj).symm
        have hrow0 : Row16 (w.alloc (.cells (C16 t) 24)) w.heap.size t := heap_alloc_new _ _
        go_wp2_with (first
          | (show wpList _ _ _ (Oper.mk _ (.load 24 (.tmp 33)) _ _ _ _ :: _) _ _; refine wpList_load_mid rfl 24 _ rfl b off rfl (C16 t).toList _ hran Try.underlying24 rfl (info24 _) ?_)
          | (show wpList _ _ _ (Oper.mk _ (.load 24 (.tmp 4)) _ _ _ _ :: _) _ _; refine wpList_load_row rfl 24 _ rfl w.heap.size rfl 24 _ (0, 0) _ hrow0 Try.underlying24 rfl (info24 _) ?_)
          | (show wpList _ _ _ (Oper.mk _ (.store 24 _ _) _ _ _ _ :: _) _ _; refine st24 rfl rfl _ _ rfl _ rfl (by simp) t rfl rfl ?_))
        have hrow1 : Row16 ((w.alloc (.cells (C16 t) 24)).alloc (.cells (C16 t) 24)) w.heap.size t := heap_alloc2_old _ _ _
        have hrow2 : Row16 ((w.alloc (.cells (C16 t) 24)).alloc (.cells (C16 t) 24)) (w.heap.size + 1) t := heap_alloc2_new _ _ _
        refine (zzfold_any t w.heap.size _ hrow1 hd).mono ?_
        rintro e w1 ⟨r, t', rfl, hF, hrt, hb1⟩
        have hin1 := hrow2.but hb1 (by omega)
        have hbl1 : Below w.heap.size w w1 := by
          refine Below.trans (b := (w.alloc (.cells (C16 t) 24)).alloc (.cells (C16 t) 24)) (by go_grown) ?_
          exact ⟨hb1.os, hb1.tape, hb1.output, hb1.size, fun k hk => hb1.block k (by simp; omega) (by omega)⟩
        have hsz1 : w.heap.size + 2 ≤ w1.heap.size := by have := hb1.size; simpa using this
        clear hrow0 hrow1 hrow2 hran hck hb1
        obtain ⟨X, hX⟩ : ∃ X, Hz t 16 0 % PP = X := ⟨_, rfl⟩
        have HX := hide hX; clear hX
        have hrr : Row8 25 (w1.alloc (.cells (C8 r) 25)) w1.heap.size r := heap_alloc_new _ _
        have hrt1 : Row16 (w1.alloc (.cells (C8 r) 25)) w.heap.size t' := hrt.below (B := w1.heap.size) (by go_grown) hrt.lt
        have hin2 : Row16 (w1.alloc (.cells (C8 r) 25)) (w.heap.size + 1) t := hin1.below (B := w1.heap.size) (by go_grown) hin1.lt
        have hbl2 : Below w.heap.size w (w1.alloc (.cells (C8 r) 25)) := hbl1.alloc (by omega) _
        go_wp2_with (show wpList _ _ _ (Oper.mk _ (.store 25 _ _) _ _ _ _ :: _) _ _; refine st25 rfl rfl _ _ rfl _ rfl rfl r rfl rfl ?_)
        have hw2 : w1.heap.size < (w1.alloc (.cells (C8 r) 25)).heap.size := by simp
        generalize w1.alloc (.cells (C8 r) 25) = w2 at *
        generalize hbr : w1.heap.size = br at *
        go_loop [7] (fun i => ∃ k : Nat, k ≤ 8 ∧ i = .int .i64 k) (fun i => (8 - intOf i).toNat)
        case atStart => exact ⟨0, by omega, rfl⟩
        case round =>
          obtain ⟨k, hk, rfl⟩ := hrel
          by_cases hlt8 : k < 8
          · have hck := hrr.cell k hlt8
            have hbd := hF.rbd k hlt8
            by_cases e0 : k = 0
            · subst e0
              go_wp2
              exact ⟨⟨1, by omega, rfl⟩, by simp [intOf]⟩
            · by_cases e4 : k = 4
              · subst e4
                go_wp2
                exact ⟨⟨5, by omega, rfl⟩, by simp [intOf]⟩
              · have f0 : ((k : Int) == 0) = false := by simp; omega
                have f4 : ((k : Int) == 4) = false := by simp; omega
                have hbd' := hF.rbd56 k hlt8 e0 e4
                go_wp2
                exact ⟨⟨k + 1, by omega, by go_num⟩, by simp [intOf]; omega⟩
          · have hk8 : k = 8 := by omega
            subst hk8
            go_wp2_with (show wpList _ _ _ (Oper.mk _ (.load 24 (.tmp 5)) _ _ _ _ :: _) _ _; refine wpList_load_row rfl 24 _ rfl (w.heap.size + 1) rfl 24 _ (0, 0) _ hin2 Try.underlying24 rfl (info24 _) ?_)
            refine (modp16 t X HT.out HX.out _).mono ?_
            rintro e w3 ⟨rfl, hb3⟩
            have hm4 : Mem1 w t t' r X br w3.heap.size (w3.alloc (.cells (C8 (W8 X)) 25)) := by
              have hbb : Below w3.heap.size w3 (w3.alloc (.cells (C8 (W8 X)) 25)) := by go_grown
              have a1 := hrt1.below hb3 hrt1.lt
              have a2 := hin2.below hb3 hin2.lt
              have a3 := hrr.below hb3 hrr.lt
              have a4 := hbl2.trans (hb3.mono hbl2.size)
              exact ⟨a4.trans (hbb.mono a4.size), a1.below hbb a1.lt, a2.below hbb a2.lt, a3.below hbb a3.lt, heap_alloc_new _ _⟩
            clear hrt1 hin2 hrr hbl2 hin1 hrt hbl1
            go_wp2_with (show wpList _ _ _ (Oper.mk _ (.store 25 _ _) _ _ _ _ :: _) _ _; refine st25 rfl rfl _ _ rfl _ rfl rfl (W8 X) rfl rfl ?_)
            generalize w3.alloc (.cells (C8 (W8 X)) 25) = w4 at *
            generalize w3.heap.size = bw at *
            clear hb3
            go_cut [59] (fun s wc => s = .bool false ∧ Mem1 w t t' r X br bw wc)
            case first =>
              have c0 := hm4.rr.cell 0 (by omega)
              have c1 := hm4.rr.cell 1 (by omega)
              have c2 := hm4.rr.cell 2 (by omega)
              have c3 := hm4.rr.cell 3 (by omega)
              have c4 := hm4.rr.cell 4 (by omega)
              have c5 := hm4.rr.cell 5 (by omega)
              have c6 := hm4.rr.cell 6 (by omega)
              have c7 := hm4.rr.cell 7 (by omega)
              have d0 := hm4.want.cell 0 (by omega)
              have d1 := hm4.want.cell 1 (by omega)
              have d2 := hm4.want.cell 2 (by omega)
              have d3 := hm4.want.cell 3 (by omega)
              have d4 := hm4.want.cell 4 (by omega)
              have d5 := hm4.want.cell 5 (by omega)
              have d6 := hm4.want.cell 6 (by omega)
              have d7 := hm4.want.cell 7 (by omega)
              have heq := eq25 (W8 X)
              go_region_with (first
                | (go_at_call 7; refine (low_any r _).mono ?_; rintro e w5 ⟨u, rfl, hu1, hu0, hb5⟩; have HU1 := hide hu1; have HU0 := hide hu0; clear hu1 hu0; have hm5 := hm4.drew.later hb5; have e0 := hm5.want.cell 0 (by omega); have e1 := hm5.want.cell 1 (by omega); have e2 := hm5.want.cell 2 (by omega); have e3 := hm5.want.cell 3 (by omega); have e4 := hm5.want.cell 4 (by omega); have e5 := hm5.want.cell 5 (by omega); have e6 := hm5.want.cell 6 (by omega); have e7 := hm5.want.cell 7 (by omega))
                | (go_at_call 6; refine (modp8 u X (low_word u r HU1.out HU0.out (fun j hj => ⟨(hF.rbd j hj).1, by have := (hF.rbd j hj).2; omega⟩)) (by rw [low_val u r HU1.out, hF.rval]; exact HX.out) _).mono ?_; rintro e w6 ⟨rfl, hb6⟩; have hm6 := hm5.later hb6; have g0 := hm6.want.cell 0 (by omega); have g1 := hm6.want.cell 1 (by omega); have g2 := hm6.want.cell 2 (by omega); have g3 := hm6.want.cell 3 (by omega); have g4 := hm6.want.cell 4 (by omega); have g5 := hm6.want.cell 5 (by omega); have g6 := hm6.want.cell 6 (by omega); have g7 := hm6.want.cell 7 (by omega)))
              all_goals
                go_wp2
                go_meet
                case rel => exact ⟨rfl, hm6⟩
            case rest =>
              obtain ⟨rfl, hm5⟩ := hcut
              clear hm4
              go_wp2
              go_loop [10] (fun i => ∃ k : Nat, k ≤ 16 ∧ i = .int .i64 k) (fun i => (16 - intOf i).toNat)
              case atStart => exact ⟨0, by omega, rfl⟩
              case round =>
                obtain ⟨k, hk, rfl⟩ := hrel
                by_cases hlt16 : k < 16
                · have hck := hm5.tt.cell k hlt16
                  have hbd := hF.bd k hlt16
                  go_wp2
                  exact ⟨⟨k + 1, by omega, by go_num⟩, by simp [intOf]; omega⟩
                · have hk16 : k = 16 := by omega
                  subst hk16
                  go_wp2
                  go_loopw [11] (fun i wr => Mem1 w t t' r X br bw wr ∧ ∃ k : Nat, 12 ≤ k ∧ k ≤ 16 ∧ i = .int .i64 k) (fun i _ => (16 - intOf i).toNat)
                  case atStart => exact ⟨hm5, 12, by omega, by omega, rfl⟩
                  case round =>
                    obtain ⟨hm6, k, hk12, hk, rfl⟩ := hrel
                    by_cases hlt16 : k < 16
                    · have hck := hm6.tt.cell k hlt16
                      rw [hF.hi k hk12 hlt16] at hck
                      have hck' := hm6.inn.cell k hlt16
                      go_wp2
                      go_region
                      go_wp2
                      exact ⟨⟨hm6.drew, k + 1, by omega, by omega, by go_num⟩, by simp [intOf]; omega⟩
                    · have hk16 : k = 16 := by omega
                      subst hk16
                      go_wp2
                      go_loopw [12] (fun i wr => Mem1 w t t' r X br bw wr ∧ ∃ k : Nat, 8 ≤ k ∧ k ≤ 12 ∧ i = .int .i64 k) (fun i _ => (12 - intOf i).toNat)
                      case atStart => exact ⟨hm6, 8, by omega, by omega, rfl⟩
                      case round =>
                        obtain ⟨hm7, k, hk8, hk, rfl⟩ := hrel
                        by_cases hlt12 : k < 12
                        · have hck := hm7.tt.cell k (by omega)
                          rw [hF.mid k hk8 hlt12] at hck
                          have hck' := hm7.inn.cell k (by omega)
                          have hck4 := hm7.inn.cell (k + 4) (by omega)
                          have hb1 := hd.bd k (by omega)
                          have hb2 := hd.bd (k + 4) (by omega)
                          go_wp2
                          go_region
                          go_wp2
                          exact ⟨⟨hm7.drew, k + 1, by omega, by omega, by go_num⟩, by simp [intOf]; omega⟩
                        · have hk12 : k = 12 := by omega
                          subst hk12
                          go_wp2
                          have l0 := hm7.inn.lt
                          have l1 := hm7.rr.lt
                          have l2 := hm7.want.lt
                          have hm8 : Mem1 w t t' r X br bw (wr.alloc (.cells (C16 (fun _ => 0)) 24)) := hm7.later (by go_grown)
                          have hlw : Row16 (wr.alloc (.cells (C16 (fun _ => 0)) 24)) wr.heap.size (fun _ => 0) := heap_alloc_new _ _
                          generalize wr.heap.size = bl at *
                          go_loopw [14] (fun i wr => Mem1 w t t' r X br bw wr ∧ ∃ (u : Nat → Int) (k : Nat), k ≤ 8 ∧ i = .int .i64 k ∧ Row16 wr bl u ∧ (∀ j, j < k → u j = t' j) ∧ ∀ j, k ≤ j → u j = 0) (fun i _ => (8 - intOf i).toNat)
                          case atStart => exact ⟨hm8, fun _ => 0, 0, by omega, rfl, hlw, fun j hj => by omega, fun j _ => rfl⟩
                          case round =>
                            clear hm8 hlw hm7
                            obtain ⟨hm9, u, k, hk8, rfl, hru, hu1, hu0⟩ := hrel
                            have HU1 := hide hu1; clear hu1
                            have HU0 := hide hu0; clear hu0
                            by_cases hlt8 : k < 8
                            · have hck := hm9.tt.cell k (by omega)
                              have hcu := hru.cell k (by omega)
                              have hfu := hru.frozen k
                              go_wp2
                              refine ⟨⟨hm9.setNew _ _ l0 l1 l2, upd u k (t' k), k + 1, by omega, by go_num, hru.set k (by omega) _, fun j hj => ?_, fun j hj => ?_⟩, by simp [intOf]; omega⟩
                              · by_cases e : j = k
                                · rw [e, upd_same]
                                · rw [upd_other _ _ _ _ e]; exact HU1.out j (by omega)
                              · rw [upd_other _ _ _ _ (by omega)]; exact HU0.out j (by omega)
                            · have hk8' : k = 8 := by omega
                              subst hk8'
                              have hc0 := hru.cell 0 (by omega)
                              have hc1 := hru.cell 1 (by omega)
                              have hc2 := hru.cell 2 (by omega)
                              have hc3 := hru.cell 3 (by omega)
                              have hc4 := hru.cell 4 (by omega)
                              have hc5 := hru.cell 5 (by omega)
                              have hc6 := hru.cell 6 (by omega)
                              have hc7 := hru.cell 7 (by omega)
                              have hc8 := hru.cell 8 (by omega)
                              have hc9 := hru.cell 9 (by omega)
                              have hc10 := hru.cell 10 (by omega)
                              have hc11 := hru.cell 11 (by omega)
                              have hc12 := hru.cell 12 (by omega)
                              have hc13 := hru.cell 13 (by omega)
                              have hc14 := hru.cell 14 (by omega)
                              have hc15 := hru.cell 15 (by omega)
                              have d0 := hm9.want.cell 0 (by omega)
                              have d1 := hm9.want.cell 1 (by omega)
                              have d2 := hm9.want.cell 2 (by omega)
                              have d3 := hm9.want.cell 3 (by omega)
                              have d4 := hm9.want.cell 4 (by omega)
                              have d5 := hm9.want.cell 5 (by omega)
                              have d6 := hm9.want.cell 6 (by omega)
                              have d7 := hm9.want.cell 7 (by omega)
                              have heq := eq25 (W8 X)
                              go_wp2
                              go_region_with (first
                                | (go_at_call 6; refine (modp8 u X (low_word u t' HU1.out HU0.out (fun j hj => ⟨(hF.bd j (by omega)).1, by have := (hF.bd j (by omega)).2; omega⟩)) (by rw [low_val u t' HU1.out, hF.val]; exact HX.out) _).mono ?_; rintro e w6 ⟨rfl, hb6⟩; have hm10 := hm9.drew.later hb6; have g0 := hm10.want.cell 0 (by omega); have g1 := hm10.want.cell 1 (by omega); have g2 := hm10.want.cell 2 (by omega); have g3 := hm10.want.cell 3 (by omega); have g4 := hm10.want.cell 4 (by omega); have g5 := hm10.want.cell 5 (by omega); have g6 := hm10.want.cell 6 (by omega); have g7 := hm10.want.cell 7 (by omega)))
                              all_goals
                                go_wp2
                                go_ret
                                exact ⟨rfl, hm10.below⟩
      · go_wp2
        go_ret
        exact ⟨rfl, Below.refl _ _⟩
end Go.Proofs.Qxb6632417a
