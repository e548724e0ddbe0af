/-
  THE LAW FnFieldsFreshEachCall: her walk.
-/
import Derived.Test.Qxb6632495aK3
import Derived.Deep.RegionWith
import Derived.Deep.DeepCutAuto
namespace Go.Proofs.Qxb6632495a
open Go.RowKit

set_option maxHeartbeats 1600000 in
set_option maxRecDepth 20000 in
theorem law4 (p : ByteArray) (a b : Option Addr) (n cap m cap' : Nat) (s t : Nat → ByteArray) (w : World) (hp : p.size ≤ 9223372036854775807) (i1 : IsStrs w a n cap s) (i2 : IsStrs w b m cap' t) :
    Calls Try.prog 4 #[.string p, .slice a n cap, .slice b m cap'] w fun e w' => e = .returned (.bool true) ∧ Below w.heap.size w w' := by
  obtain ⟨A, hA⟩ := i1.sl
  obtain ⟨B, hB⟩ := i2.sl
  go_enter Try.func4, Try.ntmps4
  go_wp2_with fail
  refine (bytes11 p a b n cap m cap' A B s t w hp i1.le i2.le hA hB i1.each i2.each).mono ?_
  rintro e w' ⟨r, rfl, hr, rfl⟩
  cases r with
  | false =>
    clear hr
    go_wp2
    go_ret
    exact ⟨rfl, Below.refl _ _⟩
  | true =>
    obtain ⟨hp', hn, hm, hs, ht⟩ := hr rfl
    have HS := hide hs; clear hs
    have HT := hide ht; clear ht
    go_wp2_with fail
    refine (small_any p a b n cap m cap' A B s t w' hp' hn hm hA hB HS.out HT.out).mono ?_
    rintro e w ⟨r, rfl, -, rfl⟩
    cases r with
    | false =>
      go_wp2
      go_ret
      exact ⟨rfl, Below.refl _ _⟩
    | true =>
      go_wp2_with fail
      refine (shape_any a b n cap m cap' B t w hn hm hB).mono ?_
      rintro e w' ⟨r, rfl, hnm, rfl⟩
      cases r with
      | false =>
        clear hnm
        go_wp2
        go_ret
        exact ⟨rfl, Below.refl _ _⟩
      | true =>
        obtain rfl := hnm rfl
        have hne := fun w => run_neq_slice_nil_any (P := Try.prog) w 22 9 a n cap 0 0 Try.underlying22
        have hne' := fun w => run_neq_slice_nil_any (P := Try.prog) w 22 9 b n cap' 0 0 Try.underlying22
        go_upto_if 29 with fail
        have hmk := make22 n hn
        go_cut [1] (fun v wc => OwnS w'.heap.size wc v n s ∧ Below w'.heap.size w' wc)
        case first =>
          rcases i1 with ⟨rfl, rfl, rfl⟩ | ⟨x, rfl, hle, _, hcell, _⟩
          · go_wp2
            go_meet
            case rel => exact ⟨Or.inl ⟨rfl, rfl⟩, Below.refl _ _⟩
          · have HC := hide hcell; clear hcell
            go_wp2_with (show wpList _ _ _ (Oper.mk _ (.call { callee := .builtin .copy, args := _, argTypes := _ }) _ _ _ _ :: _) _ _; refine cpy rfl _ _ rfl n cap x s rfl rfl HC.out ?_)
            go_meet
            case rel => exact ⟨Or.inr ⟨w'.heap.size, SC n s, rfl, Nat.le_refl _, heap_alloc_new _ _, SC_get n s⟩, by go_grown⟩
        case rest =>
          obtain ⟨ho1, hb1⟩ := hcut
          obtain ⟨a1, c1, A1, rfl, hA1⟩ := ho1.sl
          have hB1 := hB.later hb1
          go_upto_if 38 with fail
          have i3 := i2.later hb1
          clear i2 hB hB1
          go_cut [2] (fun v wd => OwnS w'.heap.size wd v n t ∧ Below wc.heap.size wc wd)
          case first =>
            rcases i3 with ⟨rfl, rfl, rfl⟩ | ⟨x, rfl, hle, _, hcell, _⟩
            · go_wp2
              go_meet
              case rel => exact ⟨Or.inl ⟨rfl, rfl⟩, Below.refl _ _⟩
            · have HC := hide hcell; clear hcell
              go_wp2_with (show wpList _ _ _ (Oper.mk _ (.call { callee := .builtin .copy, args := _, argTypes := _ }) _ _ _ _ :: _) _ _; refine cpy rfl _ _ rfl n cap' x t rfl rfl HC.out ?_)
              go_meet
              case rel => exact ⟨Or.inr ⟨wc.heap.size, SC n t, rfl, hb1.size, heap_alloc_new _ _, SC_get n t⟩, by go_grown⟩
          case rest =>
            rename_i wd
            obtain ⟨ho2, hb2⟩ := hcut
            obtain ⟨b1, d1, B1, rfl, hB1⟩ := ho2.sl
            have hA2 := hA1.later hb2
            have hbb := hb1.trans (hb2.mono hb1.size)
            clear hne hne' hmk i3 hA hA1 ho2 hb1 hb2
            go_wp2_with fail
            refine (new_any p a1 b1 n c1 d1 A1 B1 s t _ hn hA2 hB1).mono ?_
            rintro e w1 ⟨g, rfl, hg, hg', hfl, hbn⟩
            have hA3 := hA2.later hbn
            have hbb1 := hbb.trans (hbn.mono hbb.size)
            have hb28 : Below w1.heap.size w1 (w1.alloc (.cells #[.string p, .slice (some ⟨g, 0, none⟩) n n] 28)) := by go_grown
            have hrt : (w1.alloc (.cells #[.string p, .slice (some ⟨g, 0, none⟩) n n] 28)).heap[w1.heap.size]? = some (.cells #[.string p, .slice (some ⟨g, 0, none⟩) n n] 28 (0, 0)) := heap_alloc_new _ _
            have hsz2 : (w1.alloc (.cells #[.string p, .slice (some ⟨g, 0, none⟩) n n] 28)).heap.size = w1.heap.size + 1 := by simp
            have hfl2 := hfl.below hb28 hg'
            go_wp2_with fail
            clear hA2 hbn hB1
            refine (fields_any p g n s t _ hn (fun _ => by omega) hfl2).mono ?_
            rintro e w3 ⟨h, C, rfl, hh, hC, hCs, hCj, hb3⟩
            have hb3' : Below w1.heap.size w1 w3 := hb28.trans (hb3.mono (by omega))
            have hrt3 := (hb3.block w1.heap.size (by omega)).trans hrt
            have hh1 : w1.heap.size + 1 ≤ h := by omega
            clear hrt hfl2 hh hsz2 hb3 hb28
            have HC := hide hC; clear hC
            have HJ := hide hCj; clear hCj
            have HR3 := hide hrt3; clear hrt3
            go_wp2
            go_loopw [11] (fun i wr => Below w1.heap.size w1 wr ∧ wr.heap[w1.heap.size]? = some (.cells #[.string p, .slice (some ⟨g, 0, none⟩) n n] 28 (0, 0)) ∧ ∃ (k : Nat) (C : Array Value), k ≤ n ∧ i = .int .i64 k ∧
                wr.heap[h]? = some (.cells C 9 (0, 0)) ∧ C.size = n ∧ (∀ j, j < k → C[j]? = some (.string (s j ++ ⟨#[35]⟩))) ∧ ∀ j, k ≤ j → j < n → C[j]? = some (.string (s j))) (fun i _ => (n - intOf i).toNat)
            case atStart => exact ⟨hb3', HR3.out, 0, C, by omega, rfl, HC.out, hCs, fun j hj => by omega, fun j _ hj => HJ.out j hj⟩
            case round =>
              clear HC HJ HR3 hCs hb3'
              obtain ⟨hb4, hrt4, k, C, hk, rfl, hC, hCs, hC1, hC2⟩ := hrel
              have HC := hide hC; clear hC
              have HR4 := hide hrt4; clear hrt4
              have H1 := hide hC1; clear hC1
              have H2 := hide hC2; clear hC2
              by_cases hlt : k < n
              · have hsk := HS.out k hlt
                have hfr := frozen_of_row wr h k C 9 HC.out
                have hcc := cell_of_row wr h k C 9 (0, 0) HC.out
                rw [H2.out k (Nat.le_refl _) hlt] at hcc
                go_wp2
                refine ⟨⟨hb4.setCell (show w1.heap.size ≤ h by omega) _, (heap_setCell_other _ _ _ _ (show w1.heap.size ≠ h by omega)).trans HR4.out, k + 1, C.setIfInBounds k (.string (s k ++ ⟨#[35]⟩)), by omega, by go_num, heap_setCell_same _ _ _ _ _ _ HC.out, by simpa using hCs, fun j hj => ?_, fun j h1 h2 => ?_⟩, by simp [intOf]; omega⟩
                · by_cases e : j = k
                  · rw [e, Array.getElem?_setIfInBounds, if_pos rfl, if_pos (by omega)]
                  · rw [Array.getElem?_setIfInBounds_ne (by omega)]; exact H1.out j (by omega)
                · rw [Array.getElem?_setIfInBounds_ne (by omega)]; exact H2.out j (by omega) h2
              · have hrt4 := HR4.out
                have hsz4 := (Array.getElem?_eq_some_iff.1 HC.out).1
                go_wp2_with (show wpList _ _ _ (Oper.mk _ (.load 28 _) _ _ _ _ :: _) _ _; refine wpList_load_row rfl 28 _ rfl w1.heap.size rfl 28 _ (0, 0) _ hrt4 Try.underlying28 rfl info28 ?_)
                have hfl4 := hfl.below hb4 hg'
                refine (fields_any p g n s t _ hn (fun _ => by omega) hfl4).mono ?_
                rintro e w5 ⟨h5, C5, rfl, hh5, hC5, hCs5, hCj5, hb5⟩
                have hA5 : SL w5 a1 n c1 A1 s := (hA3.later hb4).later hb5
                have hF5 : SL w5 (some ⟨h5, 0, none⟩) n n _ s := slOwn hC5 hCj5 (Nat.le_refl _)
                have hC6 : w5.heap[h]? = some (.cells C 9 (0, 0)) := (hb5.block h hsz4).trans HC.out
                have HC6 := hide hC6; clear hC6
                have hbb5 : Below w'.heap.size w' w5 := (hbb1.trans (hb4.mono hbb1.size)).trans (hb5.mono (Nat.le_trans hbb1.size hb4.size))
                clear hrt4 hC5 hCj5 hCs5
                go_wp2_with fail
                refine (eqs_any _ _ n n c1 _ A1 s s w5 hn hF5 hA5 (fun _ _ => rfl)).mono ?_
                rintro e w6 ⟨rfl, hb6⟩
                have hA6 := hA5.later hb6
                have hC7 : w6.heap[h]? = some (.cells C 9 (0, 0)) := (hb6.block h (Array.getElem?_eq_some_iff.1 HC6.out).1).trans HC6.out
                have hbb6 := hbb5.trans (hb6.mono hbb5.size)
                have HC7 := hide hC7; clear hC7 hF5 hA5
                go_wp2
                go_loopw [13] (fun i wr => Below w6.heap.size w6 wr ∧ ∃ k : Nat, k ≤ n ∧ i = .int .i64 k) (fun i _ => (n - intOf i).toNat)
                case atStart => exact ⟨Below.refl _ _, 0, by omega, rfl⟩
                case round =>
                  rename_i wz
                  obtain ⟨hb7, q, hq, rfl⟩ := hrel
                  by_cases hlt7 : q < n
                  · have hsk := HS.out q hlt7
                    have hi := hA6.idx q hlt7
                    have hc := (hb7.cell (block_lt_of_cell (hA6.cell q hlt7))).trans (hA6.cell q hlt7)
                    have hrow7 := (hb7.block h (Array.getElem?_eq_some_iff.1 HC7.out).1).trans HC7.out
                    have hcc := cell_of_row _ h q C 9 (0, 0) hrow7
                    rw [H1.out q (by omega)] at hcc
                    clear hrow7
                    go_wp2
                    go_region
                    go_wp2
                    exact ⟨⟨hb7.drew, q + 1, by omega, by go_num⟩, by simp [intOf]; omega⟩
                  · go_wp2
                    go_ret
                    exact ⟨rfl, hbb6.trans (hb7.mono hbb6.size)⟩
end Go.Proofs.Qxb6632495a
