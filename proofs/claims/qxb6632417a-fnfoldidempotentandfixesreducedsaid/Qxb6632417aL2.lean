/-
  THE LAW FnFoldIdempotentAndFixesReduced: her walk.
-/
import Derived.Test.Qxb6632417aW7
import Derived.Test.Qxb6632417aEq
import Derived.Deep.RegionHeld3
import Derived.Deep.DeepCutAuto
import Derived.BigQuiet
import Derived.Deep.QuietTactic
namespace Go.Proofs.Qxb6632417a
open Go.RowKit

/-- What the law's own blocks hold behind the first fold. -/
structure Mem2 (w : World) (t t' r : Nat → Int) (br : Nat) (wr : World) : Prop where
  below : Below w.heap.size w wr
  tt : Row16 wr w.heap.size t'
  inn : Row16 wr (w.heap.size + 1) t
  rr : Row8 25 wr br r
theorem Mem2.later {w : World} {t t' r : Nat → Int} {br : Nat} {wr w' : World} (h : Mem2 w t t' r br wr) (hb : Below wr.heap.size wr w') : Mem2 w t t' r br w' :=
  ⟨h.below.trans (hb.mono h.below.size), h.tt.below hb h.tt.lt, h.inn.below hb h.inn.lt, h.rr.below hb h.rr.lt⟩
theorem Mem2.drew {w : World} {t t' r : Nat → Int} {br : Nat} {wr : World} (h : Mem2 w t t' r br wr) : Mem2 w t t' r br wr.drew :=
  ⟨h.below.drew, h.tt.drew, h.inn.drew, h.rr.drew⟩

theorem Row16.range {w' : World} {b : Nat} {t : Nat → Int} (h : Row16 w' b t) (cs : List Value) (hcs : cs = (C16 t).toList) : w'.rangeAt b 0 cs := by
  subst hcs
  intro j v hv
  have hj : j < 16 := by have := (List.getElem?_eq_some_iff.1 hv).1; simpa using this
  rw [Nat.zero_add, h.cell j hj, ← hv]
  exact (lt16 (P := fun j => (C16 t).toList[j]? = some (.int .u64 (t j))) rfl rfl rfl rfl rfl rfl rfl rfl rfl rfl rfl rfl rfl rfl rfl rfl j hj).symm

/-- The cells that the first test reads. -/
theorem Mem2.cells {w : World} {t t' r : Nat → Int} {br : Nat} {w' : World} (h : Mem2 w t t' r br w') (cs : List Value) (hcs : cs = (C16 t).toList) :
    w'.cell? ⟨br, 0, none⟩ = some (.int .u64 (r 0)) ∧ w'.cell? ⟨br, 1, none⟩ = some (.int .u64 (r 1)) ∧ w'.cell? ⟨br, 2, none⟩ = some (.int .u64 (r 2)) ∧ w'.cell? ⟨br, 3, none⟩ = some (.int .u64 (r 3)) ∧ w'.cell? ⟨br, 4, none⟩ = some (.int .u64 (r 4)) ∧ w'.cell? ⟨br, 5, none⟩ = some (.int .u64 (r 5)) ∧ w'.cell? ⟨br, 6, none⟩ = some (.int .u64 (r 6)) ∧ w'.cell? ⟨br, 7, none⟩ = some (.int .u64 (r 7)) ∧ w'.rangeAt (w.heap.size + 1) 0 cs := by
  refine ⟨h.rr.cell 0 (by omega), h.rr.cell 1 (by omega), h.rr.cell 2 (by omega), h.rr.cell 3 (by omega), h.rr.cell 4 (by omega), h.rr.cell 5 (by omega), h.rr.cell 6 (by omega), h.rr.cell 7 (by omega), h.inn.range cs hcs⟩

theorem modp16c (l : Nat → Int) (X : Int) (cs : List Value) (hcs : cs = (C16 l).toList) (hl : ∀ j, j < 16 → 0 ≤ l j ∧ l j ≤ 18446744073709551615) (hX : Hz l 16 0 % PP = X) (w : World) :
    Calls Try.prog 6 #[.agg cs.toArray, .int .i64 16] w fun e w' => e = .returned (.agg (C8 (W8 X))) ∧ Below w.heap.size w w' := by
  subst hcs
  exact modp16 l X hl hX w

set_option maxHeartbeats 1600000 in
set_option maxRecDepth 20000 in
theorem law2_some (t : Nat → Int) (b off : Nat) (w : World) (hc : ∀ j, j < 16 → w.cell? ⟨b, off + j, none⟩ = some (.int .u64 (t j))) (ht : ∀ j, j < 16 → 0 ≤ t j ∧ t j ≤ 18446744073709551615) :
    Calls Try.prog 4 #[.pointer (some ⟨b, off, none⟩)] w fun e w' => e = .returned (.bool true) ∧ Below w.heap.size w w' := by
  have HC := hide hc; clear hc
  have HT := hide ht; clear ht
  go_enter Try.func4, Try.ntmps4
  go_wp2
  go_loop [3] (fun i => ∃ k : Nat, k ≤ 15 ∧ i = .int .i64 k ∧ ∀ j, j < k → t j ≤ 72057594037927935) (fun i => (15 - intOf i).toNat)
  case atStart => exact ⟨0, by omega, rfl, fun j hj => by omega⟩
  case round =>
    obtain ⟨k, hk, rfl, hle⟩ := hrel
    have HL := hide hle; clear hle
    by_cases hlt : k < 15
    · have hck := HC.out k (by omega)
      go_wp2
      · go_ret
        exact ⟨rfl, Below.refl _ _⟩
      · refine ⟨⟨k + 1, by omega, by go_num, fun j hj => ?_⟩, by simp [intOf]; omega⟩
        by_cases e : j = k
        · rw [e]; assumption
        · exact HL.out j (by omega)
    · have hk15 : k = 15 := by omega
      subst hk15
      have hck := HC.out 15 (by omega)
      by_cases h15 : t 15 < 1152921504606846976
      · have hd : Dom t := ⟨fun j hj => ⟨(HT.out j (by omega)).1, HL.out j hj⟩, (HT.out 15 (by omega)).1, h15⟩
        have hran : w.rangeAt b off (C16 t).toList := by
          intro j v hv
          have hj : j < 16 := by have := (List.getElem?_eq_some_iff.1 hv).1; simpa using this
          rw [HC.out j hj, ← hv]
          exact (lt16 (P := fun j => (C16 t).toList[j]? = some (.int .u64 (t j))) rfl rfl rfl rfl rfl rfl rfl rfl rfl rfl rfl rfl rfl rfl rfl rfl j hj).symm
        have hrow0 : Row16 (w.alloc (.cells (C16 t) 24)) w.heap.size t := heap_alloc_new _ _
        go_wp2_with (first
          | (show wpList _ _ _ (Oper.mk _ (.load 24 (.tmp 32)) _ _ _ _ :: _) _ _; refine wpList_load_mid rfl 24 _ rfl b off rfl (C16 t).toList _ hran Try.underlying24 rfl (info24 _) ?_)
          | (show wpList _ _ _ (Oper.mk _ (.load 24 (.tmp 4)) _ _ _ _ :: _) _ _; refine wpList_load_row rfl 24 _ rfl w.heap.size rfl 24 _ (0, 0) _ hrow0 Try.underlying24 rfl (info24 _) ?_)
          | (show wpList _ _ _ (Oper.mk _ (.store 24 _ _) _ _ _ _ :: _) _ _; refine st24 rfl rfl _ _ rfl _ rfl (by simp) t rfl rfl ?_))
        have hrow1 : Row16 ((w.alloc (.cells (C16 t) 24)).alloc (.cells (C16 t) 24)) w.heap.size t := heap_alloc2_old _ _ _
        have hrow2 : Row16 ((w.alloc (.cells (C16 t) 24)).alloc (.cells (C16 t) 24)) (w.heap.size + 1) t := heap_alloc2_new _ _ _
        refine (zzfold_any t w.heap.size _ hrow1 hd).mono ?_
        rintro e w1 ⟨r, t', rfl, hF, hrt, hb1⟩
        have hin1 := hrow2.but hb1 (by omega)
        have hbl1 : Below w.heap.size w w1 := by
          refine Below.trans (b := (w.alloc (.cells (C16 t) 24)).alloc (.cells (C16 t) 24)) (by go_grown) ?_
          exact ⟨hb1.os, hb1.tape, hb1.output, hb1.size, fun k hk => hb1.block k (by simp; omega) (by omega)⟩
        have hsz1 : w.heap.size + 2 ≤ w1.heap.size := by have := hb1.size; simpa using this
        clear hrow0 hrow1 hrow2 hran hck hb1
        obtain ⟨X, hX⟩ : ∃ X, Hz t 16 0 % PP = X := ⟨_, rfl⟩
        have HX := hide hX; clear hX
        have hrr : Row8 25 (w1.alloc (.cells (C8 r) 25)) w1.heap.size r := heap_alloc_new _ _
        have hrt1 : Row16 (w1.alloc (.cells (C8 r) 25)) w.heap.size t' := hrt.below (B := w1.heap.size) (by go_grown) hrt.lt
        have hin2 : Row16 (w1.alloc (.cells (C8 r) 25)) (w.heap.size + 1) t := hin1.below (B := w1.heap.size) (by go_grown) hin1.lt
        have hbl2 : Below w.heap.size w (w1.alloc (.cells (C8 r) 25)) := hbl1.alloc (by omega) _
        go_wp2_with (show wpList _ _ _ (Oper.mk _ (.store 25 _ _) _ _ _ _ :: _) _ _; refine st25 rfl rfl _ _ rfl _ rfl rfl r rfl rfl ?_)
        have hm2 : Mem2 w t t' r w1.heap.size (w1.alloc (.cells (C8 r) 25)) := ⟨hbl2, hrt1, hin2, hrr⟩
        clear hbl2 hrt1 hin2 hrr hin1 hrt hbl1
        generalize w1.alloc (.cells (C8 r) 25) = w2 at *
        generalize hbr : w1.heap.size = br at *
        go_cut [42] (fun s wc => s = .bool false ∧ Mem2 w t t' r br wc)
        case first =>
          obtain ⟨cs, hcs⟩ : ∃ cs, cs = (C16 t).toList := ⟨_, rfl⟩
          have hinf : (Try.prog.info? 24).map (·.size) = some cs.length := by rw [hcs]; exact info24 t
          have hlen : cs.length = 16 := by rw [hcs]; rfl
          have hone : ∀ v ∈ cs, v.oneCell' = true := by
            have := one16 t
            rw [hcs]
            intro v hv
            exact (Array.all_eq_true_iff_forall_mem.1 this) v (by simpa using hv)
          have hund := Try.underlying24
          have HCS := hide hcs; clear hcs
          have heq := eq25 (W8 X)
          go_region_held3 (fun w' => w'.cell? ⟨br, 0, none⟩ = some (.int .u64 (r 0)) ∧ w'.cell? ⟨br, 1, none⟩ = some (.int .u64 (r 1)) ∧ w'.cell? ⟨br, 2, none⟩ = some (.int .u64 (r 2)) ∧ w'.cell? ⟨br, 3, none⟩ = some (.int .u64 (r 3)) ∧ w'.cell? ⟨br, 4, none⟩ = some (.int .u64 (r 4)) ∧ w'.cell? ⟨br, 5, none⟩ = some (.int .u64 (r 5)) ∧ w'.cell? ⟨br, 6, none⟩ = some (.int .u64 (r 6)) ∧ w'.cell? ⟨br, 7, none⟩ = some (.int .u64 (r 7)) ∧ w'.rangeAt (w.heap.size + 1) 0 cs) (first | exact hm2.drew.cells cs HCS.out | exact hm5.cells cs HCS.out | exact hm6.cells cs HCS.out | exact hm7.cells cs HCS.out)
            (first
            | (go_at_call 7; refine (low_any r _).mono ?_; rintro e w5 ⟨u, rfl, hu1, hu0, hb5⟩; have HU1 := hide hu1; have HU0 := hide hu0; clear hu1 hu0; have hm5 := hm2.drew.later hb5)
            | (go_at_call_of 6 (Value.int IntKind.i64 8); refine (modp8 u X (low_word u r HU1.out HU0.out (fun j hj => ⟨(hF.rbd j hj).1, by have := (hF.rbd j hj).2; omega⟩)) (by rw [low_val u r HU1.out, hF.rval]; exact HX.out) _).mono ?_; rintro e w6 ⟨rfl, hb6⟩; have hm6 := hm5.later hb6)
            | (go_at_call_of 6 (Value.int IntKind.i64 16); refine (modp16c t X cs HCS.out HT.out HX.out _).mono ?_; rintro e w7 ⟨rfl, hb7⟩; have hm7 := hm6.later hb7))
          all_goals
            go_wp2
            go_meet
            case rel => exact ⟨rfl, hm7⟩
        case rest =>
          obtain ⟨rfl, hm3⟩ := hcut
          clear hm2
          go_wp2
          go_loop [7, 8] (fun z i => ∃ (k : Nat) (q : Bool), 8 ≤ k ∧ k ≤ 16 ∧ z = .bool q ∧ i = .int .i64 k ∧ (q = true → ∀ j, 8 ≤ j → j < k → t j = 0)) (fun _ i => (16 - intOf i).toNat)
          case atStart => exact ⟨8, true, by omega, by omega, rfl, rfl, fun _ j h1 h2 => by omega⟩
          case round =>
            obtain ⟨k, q, hk8, hk16, rfl, rfl, hz⟩ := hrel
            have HZ := hide hz; clear hz
            by_cases hlt : k < 16
            · have hck := hm3.inn.cell k hlt
              by_cases e0 : t k = 0
              · have e1 : (t k != 0) = false := by simp [e0]
                have E0 := hide e0; clear e0
                go_wp2
                refine ⟨⟨k + 1, q, by omega, by omega, rfl, by go_num, fun hq j h1 h2 => ?_⟩, by simp [intOf]; omega⟩
                by_cases e : j = k
                · rw [e]; exact E0.out
                · exact HZ.out hq j h1 (by omega)
              · have e1 : (t k != 0) = true := by simp [e0]
                clear e0
                go_wp2
                exact ⟨⟨k + 1, false, by omega, by omega, rfl, by go_num, fun hq => by cases hq⟩, by simp [intOf]; omega⟩
            · have hk : k = 16 := by omega
              subst hk
              go_upto_if 51 with fail
              go_cut [] (fun wc => Mem2 w t t' r br wc)
              case first =>
                cases q with
                | false =>
                  go_wp2
                  go_meet
                  case rel => exact hm3
                | true =>
                  obtain ⟨hf1, hf2⟩ := hF.fix (fun j h1 h2 => HZ.out rfl j h1 h2)
                  have HF1 := hide hf1; clear hf1
                  have HF2 := hide hf2; clear hf2
                  go_wp2
                  go_loopw [9] (fun i wr => Mem2 w t t' r br wr ∧ ∃ k : Nat, k ≤ 8 ∧ i = .int .i64 k) (fun i _ => (8 - intOf i).toNat)
                  case atStart => exact ⟨hm3, 0, by omega, rfl⟩
                  case round =>
                    obtain ⟨hm4, k, hk, rfl⟩ := hrel
                    by_cases hlt8 : k < 8
                    · have hck := hm4.rr.cell k hlt8
                      rw [HF1.out k hlt8] at hck
                      have hck' := hm4.inn.cell k (by omega)
                      go_wp2
                      go_region
                      go_wp2
                      exact ⟨⟨hm4.drew, k + 1, by omega, by go_num⟩, by simp [intOf]; omega⟩
                    · have hk8 : k = 8 := by omega
                      subst hk8
                      have ht1 : Row16 wr w.heap.size t := hm4.tt.congr HF2.out
                      have ht2 := hm4.inn
                      have x0 := ht1.cell 0 (by omega)
                      have y0 := ht2.cell 0 (by omega)
                      have x1 := ht1.cell 1 (by omega)
                      have y1 := ht2.cell 1 (by omega)
                      have x2 := ht1.cell 2 (by omega)
                      have y2 := ht2.cell 2 (by omega)
                      have x3 := ht1.cell 3 (by omega)
                      have y3 := ht2.cell 3 (by omega)
                      have x4 := ht1.cell 4 (by omega)
                      have y4 := ht2.cell 4 (by omega)
                      have x5 := ht1.cell 5 (by omega)
                      have y5 := ht2.cell 5 (by omega)
                      have x6 := ht1.cell 6 (by omega)
                      have y6 := ht2.cell 6 (by omega)
                      have x7 := ht1.cell 7 (by omega)
                      have y7 := ht2.cell 7 (by omega)
                      have x8 := ht1.cell 8 (by omega)
                      have y8 := ht2.cell 8 (by omega)
                      have x9 := ht1.cell 9 (by omega)
                      have y9 := ht2.cell 9 (by omega)
                      have x10 := ht1.cell 10 (by omega)
                      have y10 := ht2.cell 10 (by omega)
                      have x11 := ht1.cell 11 (by omega)
                      have y11 := ht2.cell 11 (by omega)
                      have x12 := ht1.cell 12 (by omega)
                      have y12 := ht2.cell 12 (by omega)
                      have x13 := ht1.cell 13 (by omega)
                      have y13 := ht2.cell 13 (by omega)
                      have x14 := ht1.cell 14 (by omega)
                      have y14 := ht2.cell 14 (by omega)
                      have x15 := ht1.cell 15 (by omega)
                      have y15 := ht2.cell 15 (by omega)
                      have heq := eq24 t
                      go_wp2
                      go_region
                      go_wp2
                      go_meet
                      case rel => exact hm4.drew
              case rest =>
                clear hm3
                rename_i wz
                go_wp2
                go_loop [10, 11] (fun z i => ∃ (k : Nat) (q : Bool), k ≤ 8 ∧ z = .bool q ∧ i = .int .i64 k ∧ (q = true → ∀ j, j < k → r j ≤ 72057594037927935)) (fun _ i => (8 - intOf i).toNat)
                case atStart => exact ⟨0, true, by omega, rfl, rfl, fun _ j h2 => by omega⟩
                case round =>
                  obtain ⟨k, q', hk8', rfl, rfl, hz'⟩ := hrel
                  have HZ' := hide hz'; clear hz'
                  by_cases hlt : k < 8
                  · have hck := hcut.rr.cell k hlt
                    by_cases e0 : r k ≤ 72057594037927935
                    · go_wp2
                      refine ⟨⟨k + 1, q', by omega, rfl, by go_num, fun hq j h2 => ?_⟩, by simp [intOf]; omega⟩
                      by_cases e : j = k
                      · rw [e]; exact e0
                      · exact HZ'.out hq j (by omega)
                    · go_wp2
                      exact ⟨⟨k + 1, false, by omega, rfl, by go_num, fun hq => by cases hq⟩, by simp [intOf]; omega⟩
                  · have hk : k = 8 := by omega
                    subst hk
                    cases q' with
                    | false =>
                      go_wp2
                      go_ret
                      exact ⟨rfl, hcut.below⟩
                    | true =>
                      have hra := hcut.rr
                      go_wp2_with (show wpList _ _ _ (Oper.mk _ (.load 25 _) _ _ _ _ :: _) _ _; refine wpList_load_row rfl 25 _ rfl br rfl 25 _ (0, 0) _ hra Try.underlying25 rfl (info25 _) ?_)
                      refine (low_any r _).mono ?_
                      rintro e w5 ⟨u, rfl, hu1, hu0, hb5⟩
                      have HU1 := hide hu1; clear hu1
                      have HU0 := hide hu0; clear hu0
                      have hm5 := hcut.later hb5
                      have hm6 : Mem2 w t t' r br (w5.alloc (.cells (C16 u) 24)) := hm5.later (by go_grown)
                      have hru : Row16 (w5.alloc (.cells (C16 u) 24)) w5.heap.size u := heap_alloc_new _ _
                      have hdu : Dom u := by
                        refine ⟨fun j hj => ?_, ?_⟩
                        · by_cases e : j < 8
                          · rw [HU1.out j e]; exact ⟨(hF.rbd j e).1, HZ'.out (by trivial) j e⟩
                          · rw [HU0.out j (by omega)]; omega
                        · rw [HU0.out 15 (by omega)]; omega
                      have hl := hm5.rr.lt
                      have hl2 := hm5.inn.lt
                      go_wp2_with (show wpList _ _ _ (Oper.mk _ (.store 24 _ _) _ _ _ _ :: _) _ _; refine st24 rfl rfl _ _ rfl _ rfl rfl u rfl rfl ?_)
                      refine (zzfold_any u w5.heap.size _ hru hdu).mono ?_
                      rintro e w6 ⟨s, u', rfl, hF2, hrs, hb6⟩
                      have hs : ∀ j, j < 8 → s j = r j := by
                        have := (hF2.fix (fun j h1 _ => HU0.out j h1)).1
                        intro j hj
                        rw [this j hj, HU1.out j hj]
                      have HS := hide hs; clear hs
                      have hr6 := hm6.rr.but hb6 (by omega)
                      have hbl6 : Below w.heap.size w w6 := by
                        have hB := hm6.below
                        refine hB.trans ⟨hb6.os, hb6.tape, hb6.output, hb6.size, fun k hk => hb6.block k (by have := hB.size; omega) (by omega)⟩
                      have hr7 : Row8 25 (w6.alloc (.cells (C8 s) 25)) br r := hr6.below (B := w6.heap.size) (by go_grown) hr6.lt
                      have hs7 : Row8 25 (w6.alloc (.cells (C8 s) 25)) w6.heap.size s := heap_alloc_new _ _
                      have hs8 := hs7.congr HS.out
                      have hbl7 : Below w.heap.size w (w6.alloc (.cells (C8 s) 25)) := hbl6.alloc hbl6.size _
                      have heq := eq25 r
                      clear hm6 hru hm5 hcut hra hr6 hs7
                      go_wp2_with (first
                        | (show wpList _ _ _ (Oper.mk _ (.store 25 _ _) _ _ _ _ :: _) _ _; refine st25 rfl rfl _ _ rfl _ rfl rfl s rfl rfl ?_)
                        | (show wpList _ _ _ (Oper.mk _ (.load 25 (.tmp 13)) _ _ _ _ :: _) _ _; refine wpList_load_row rfl 25 _ rfl w6.heap.size rfl 25 _ (0, 0) _ hs8 Try.underlying25 rfl (info25 _) ?_)
                        | (show wpList _ _ _ (Oper.mk _ (.load 25 (.tmp 6)) _ _ _ _ :: _) _ _; refine wpList_load_row rfl 25 _ rfl br rfl 25 _ (0, 0) _ hr7 Try.underlying25 rfl (info25 _) ?_))
                      go_ret
                      exact ⟨rfl, hbl7⟩
      · go_wp2
        go_ret
        exact ⟨rfl, Below.refl _ _⟩
end Go.Proofs.Qxb6632417a
