/-
  THE LAW FnFieldsSplitConcat: her walk.
-/
import Derived.Test.Qxb6632495aK4
import Derived.Deep.RegionWith
import Derived.Deep.DeepCutAuto
namespace Go.Proofs.Qxb6632495a
open Go.RowKit

set_option maxHeartbeats 1600000 in
set_option maxRecDepth 20000 in
theorem law3 (p : ByteArray) (a b : Option Addr) (n cap m cap' : Nat) (s t : Nat → ByteArray) (x : Int) (w : World) (hp : p.size ≤ 9223372036854775807) (i1 : IsStrs w a n cap s) (i2 : IsStrs w b m cap' t) :
    Calls Try.prog 3 #[.string p, .slice a n cap, .slice b m cap', .int .i64 x] w fun e w' => e = .returned (.bool true) ∧ Below w.heap.size w w' := by
  obtain ⟨A, hA⟩ := i1.sl
  obtain ⟨B, hB⟩ := i2.sl
  go_enter Try.func3, Try.ntmps3
  go_wp2_with fail
  refine (bytes5 p a b n cap m cap' x A B s t w hp i1.le i2.le hA hB i1.each i2.each).mono ?_
  rintro e w' ⟨r, rfl, hr, rfl⟩
  cases r with
  | false =>
    clear hr
    go_wp2
    go_ret
    exact ⟨rfl, Below.refl _ _⟩
  | true =>
    obtain ⟨hp', hn, hm, hs, ht⟩ := hr rfl
    have HS := hide hs; clear hs
    have HT := hide ht; clear ht
    go_wp2_with fail
    refine (small_any p a b n cap m cap' A B s t w' hp' hn hm hA hB HS.out HT.out).mono ?_
    rintro e w ⟨r, rfl, -, rfl⟩
    cases r with
    | false =>
      go_wp2
      go_ret
      exact ⟨rfl, Below.refl _ _⟩
    | true =>
      go_wp2_with fail
      refine (shape_any a b n cap m cap' B t w hn hm hB).mono ?_
      rintro e w' ⟨r, rfl, hnm, rfl⟩
      cases r with
      | false =>
        clear hnm
        go_wp2
        go_ret
        exact ⟨rfl, Below.refl _ _⟩
      | true =>
        obtain rfl := hnm rfl
        by_cases hx0 : x < 0
        · go_wp2
          go_ret
          exact ⟨rfl, Below.refl _ _⟩
        · by_cases hxn : (n : Int) < x
          · go_wp2
            go_ret
            exact ⟨rfl, Below.refl _ _⟩
          · obtain ⟨k, rfl⟩ := Int.eq_ofNat_of_zero_le (show 0 ≤ x by omega)
            have hkn : k ≤ n := by omega
            clear hx0 hxn
            have hne := fun w => run_neq_slice_nil_any (P := Try.prog) w 22 9 a n cap 0 0 Try.underlying22
            have hne' := fun w => run_neq_slice_nil_any (P := Try.prog) w 22 9 b n cap' 0 0 Try.underlying22
            go_upto_if 42 with fail
            have hmk := make22 n hn
            go_cut [1] (fun v wc => OwnS w'.heap.size wc v n s ∧ Below w'.heap.size w' wc)
            case first =>
              rcases i1 with ⟨rfl, rfl, rfl⟩ | ⟨x, rfl, hle, _, hcell, _⟩
              · go_wp2
                go_meet
                case rel => exact ⟨Or.inl ⟨rfl, rfl⟩, Below.refl _ _⟩
              · have HC := hide hcell; clear hcell
                go_wp2_with (show wpList _ _ _ (Oper.mk _ (.call { callee := .builtin .copy, args := _, argTypes := _ }) _ _ _ _ :: _) _ _; refine cpy rfl _ _ rfl n cap x s rfl rfl HC.out ?_)
                go_meet
                case rel => exact ⟨Or.inr ⟨w'.heap.size, SC n s, rfl, Nat.le_refl _, heap_alloc_new _ _, SC_get n s⟩, by go_grown⟩
            case rest =>
              obtain ⟨ho1, hb1⟩ := hcut
              obtain ⟨a1, c1, A1, rfl, hA1⟩ := ho1.sl
              have hB1 := hB.later hb1
              go_upto_if 51 with fail
              have i3 := i2.later hb1
              clear i2 hB hB1
              go_cut [2] (fun v wd => OwnS w'.heap.size wd v n t ∧ Below wc.heap.size wc wd)
              case first =>
                rcases i3 with ⟨rfl, rfl, rfl⟩ | ⟨x, rfl, hle, _, hcell, _⟩
                · go_wp2
                  go_meet
                  case rel => exact ⟨Or.inl ⟨rfl, rfl⟩, Below.refl _ _⟩
                · have HC := hide hcell; clear hcell
                  go_wp2_with (show wpList _ _ _ (Oper.mk _ (.call { callee := .builtin .copy, args := _, argTypes := _ }) _ _ _ _ :: _) _ _; refine cpy rfl _ _ rfl n cap' x t rfl rfl HC.out ?_)
                  go_meet
                  case rel => exact ⟨Or.inr ⟨wc.heap.size, SC n t, rfl, hb1.size, heap_alloc_new _ _, SC_get n t⟩, by go_grown⟩
              case rest =>
                rename World => wd
                obtain ⟨ho2, hb2⟩ := hcut
                have ho1' := ho1.later hb2
                obtain ⟨b1, d1, B1, rfl, hB1⟩ := ho2.sl
                have hA2 := hA1.later hb2
                have hbb := hb1.trans (hb2.mono hb1.size)
                clear hne hne' hmk i3 hA hA1 hb1 hb2 ho1
                go_wp2_with fail
                refine (new_any p a1 b1 n c1 d1 A1 B1 s t _ hn hA2 hB1).mono ?_
                rintro e w1 ⟨g, rfl, hg, hg', hfl, hbn⟩
                have hbb1 := hbb.trans (hbn.mono hbb.size)
                have ho1n := ho1'.later hbn
                have ho2n := ho2.later hbn
                have hb28 := below_alloc28 w1 (.cells #[.string p, .slice (some ⟨g, 0, none⟩) n n] 28)
                have ho1m := ho1n.later hb28
                have ho2m := ho2n.later hb28
                have hT := Tpl.mk' (p := p) hfl hg'
                have hbbm := hbb1.trans (hb28.mono hbb1.size)
                go_wp2_with fail
                clear hfl hg' hg hbn hb28 ho1n ho2n ho1' ho2 hA2 hB1 hbb1 hbb
                generalize w1.alloc (.cells #[.string p, .slice (some ⟨g, 0, none⟩) n n] 28) = W at *
                generalize w1.heap.size = bt at *
                obtain ⟨a2, c2, A2, hsl1, hA2⟩ := cutlo ho1m k hkn
                obtain ⟨b2, d2, B2, hsl2, hB2⟩ := cutlo ho2m k hkn
                have hk20 : k ≤ 1048576 := by omega
                go_cut [12] (fun v wc => ∃ bt1 g1, v = .pointer (some ⟨bt1, 0, none⟩) ∧ Tpl p s t k bt1 g1 wc ∧ Below W.heap.size W wc)
                case first =>
                  go_region_with (first | (go_at_call 8; refine (new_any p a2 b2 k c2 d2 A2 B2 s t _ hk20 ?_ ?_).mono ?_; (first | exact hA2.later (below_drew _) | exact (hA2.later (below_alloc28 _ _)).later (below_drew _)); (first | exact hB2.later (below_drew _) | exact (hB2.later (below_alloc28 _ _)).later (below_drew _)); rintro e w5 ⟨g5, rfl, hg5, hg5', hfl5, hb5⟩; try (have hrz := row28_of hb5; obtain ⟨hz, z0, z1, y0, y1⟩ := hrz)))
                  all_goals
                    go_wp2
                    go_meet
                    case rel =>
                      first | exact endA hfl5 hg5' hb5 | exact endB hfl5 hg5 hg5' hb5
                case rest =>
                  obtain ⟨bt1, g1, rfl, hT1, hb1⟩ := hcut
                  rename World => W1
                  have hTa := hT.later hb1
                  have hoa := ho1m.later hb1
                  have hob := ho2m.later hb1
                  have hbba := hbbm.trans (hb1.mono hbbm.size)
                  clear hsl1 hsl2 hA2 hB2 hT ho1m ho2m hbbm hb1
                  go_upto_if 73 with fail
                  go_cut [13] (fun v wx => ∃ q, v = .string q ∧ wx = W1)
                  case first =>
                    by_cases hk0 : k = 0
                    · subst hk0
                      go_wp2
                      go_meet
                      case rel => exact ⟨_, rfl, rfl⟩
                    · obtain ⟨b9, d9, B9, e9, hB9⟩ := hob.sl
                      obtain ⟨rfl, rfl⟩ : b1 = b9 ∧ d1 = d9 := by simpa using e9
                      have hi := hB9.idx (k - 1) (by omega)
                      have hc := hB9.cell (k - 1) (by omega)
                      rw [show ((k - 1 : Nat) : Int) = (k : Int) - 1 from by omega] at hi
                      clear e9
                      go_wp2
                      go_meet
                      case rel => exact ⟨_, rfl, rfl⟩
                  case rest =>
                    obtain ⟨q, rfl, rfl⟩ := hcut
                    rename World => W1
                    obtain ⟨a3, c3, A3, hsl3, hA3⟩ := cuthi hoa k hkn
                    obtain ⟨b3, d3, B3, hsl4, hB3⟩ := cuthi hob k hkn
                    have hk21 : n - k ≤ 1048576 := by omega
                    go_wp2
                    go_cut [14] (fun v wc => ∃ bt2 g2, v = .pointer (some ⟨bt2, 0, none⟩) ∧ Tpl q (fun j => s (k + j)) (fun j => t (k + j)) (n - k) bt2 g2 wc ∧ Below W1.heap.size W1 wc)
                    case first =>
                      go_region_with (first | (go_at_call 8; refine (new_any q a3 b3 (n - k) c3 d3 A3 B3 (fun j => s (k + j)) (fun j => t (k + j)) _ hk21 ?_ ?_).mono ?_; (first | exact hA3.later (below_drew _) | exact (hA3.later (below_alloc28 _ _)).later (below_drew _)); (first | exact hB3.later (below_drew _) | exact (hB3.later (below_alloc28 _ _)).later (below_drew _)); rintro e w5 ⟨g5, rfl, hg5, hg5', hfl5, hb5⟩; try (have hrz := row28_of hb5; obtain ⟨hz, z0, z1, y0, y1⟩ := hrz)))
                      all_goals
                        go_wp2
                        go_meet
                        case rel =>
                          first | exact endA hfl5 hg5' hb5 | exact endB hfl5 hg5 hg5' hb5
                    case rest =>
                      obtain ⟨bt2, g2, rfl, hT2, hb2⟩ := hcut
                      rename World => W2
                      have hTc := hTa.later hb2
                      have hTd := hT1.later hb2
                      have hoc := hoa.later hb2
                      have hbbc := hbba.trans (hb2.mono hbba.size)
                      clear hsl3 hsl4 hA3 hB3 hTa hT1 hoa hob hbba hb2
                      have hv1 := hTc.var
                      go_wp2_with (show wpList _ _ _ (Oper.mk _ (.load 28 (.tmp 11)) _ _ _ _ :: _) _ _; refine wpList_load_row rfl 28 _ rfl bt rfl 28 _ (0, 0) _ hv1 Try.underlying28 rfl info28 ?_)
                      refine (fields_any p g n s t _ hn (fun _ => hTc.lt) hTc.fl).mono ?_
                      rintro e w3 ⟨h3, C3, rfl, -, hC3, -, hCj3, hb3⟩
                      have hTe := hTd.later hb3
                      have hTf := hT2.later hb3
                      have hod := hoc.later hb3
                      have hbbd := hbbc.trans (hb3.mono hbbc.size)
                      have hoA : OwnS 0 w3 (.slice (some ⟨h3, 0, none⟩) n n) n s := Or.inr ⟨h3, C3, rfl, Nat.zero_le _, hC3, hCj3⟩
                      clear hTc hTd hT2 hoc hbbc hb3 hv1 hC3 hCj3
                      have hv2 := hTe.var
                      go_wp2_with (show wpList _ _ _ (Oper.mk _ (.load 28 (.tmp 12)) _ _ _ _ :: _) _ _; refine wpList_load_row rfl 28 _ rfl bt1 rfl 28 _ (0, 0) _ hv2 Try.underlying28 rfl info28 ?_)
                      refine (fields_any p g1 k s t _ hk20 (fun _ => hTe.lt) hTe.fl).mono ?_
                      rintro e w4 ⟨h4, C4, rfl, -, hC4, -, hCj4, hb4⟩
                      have hTg := hTf.later hb4
                      have hoe := hod.later hb4
                      have hbbe := hbbd.trans (hb4.mono hbbd.size)
                      have hoA4 := hoA.later hb4
                      have hoB : OwnS 0 w4 (.slice (some ⟨h4, 0, none⟩) k k) k s := Or.inr ⟨h4, C4, rfl, Nat.zero_le _, hC4, hCj4⟩
                      clear hTe hTf hod hbbd hoA hb4 hv2 hC4 hCj4
                      have hv3 := hTg.var
                      go_wp2_with (show wpList _ _ _ (Oper.mk _ (.load 28 (.tmp 14)) _ _ _ _ :: _) _ _; refine wpList_load_row rfl 28 _ rfl bt2 rfl 28 _ (0, 0) _ hv3 Try.underlying28 rfl info28 ?_)
                      refine (fields_any q g2 (n - k) (fun j => s (k + j)) (fun j => t (k + j)) _ hk21 (fun _ => hTg.lt) hTg.fl).mono ?_
                      rintro e w5 ⟨h5, C5, rfl, -, hC5, -, hCj5, hb5⟩
                      have hof := hoe.later hb5
                      have hbbf := hbbe.trans (hb5.mono hbbe.size)
                      have hoA5 := hoA4.later hb5
                      have hoB5 := hoB.later hb5
                      have hoC : OwnS 0 w5 (.slice (some ⟨h5, 0, none⟩) (n - k) (n - k)) (n - k) (fun j => s (k + j)) := Or.inr ⟨h5, C5, rfl, Nat.zero_le _, hC5, hCj5⟩
                      clear hTg hoe hbbe hoA4 hoB hb5 hv3 hC5 hCj5
                      obtain ⟨a9, c9, A9, e9, hN⟩ := hof.sl
                      obtain ⟨rfl, rfl⟩ : a1 = a9 ∧ c1 = c9 := by simpa using e9
                      obtain ⟨a8, c8, A8, e8, hAA⟩ := hoA5.sl
                      obtain ⟨rfl, rfl⟩ : some (⟨h3, 0, none⟩ : Addr) = a8 ∧ n = c8 := by simpa using e8
                      clear e9 e8
                      go_wp2_with fail
                      refine (eqs_any _ _ n _ _ A8 A9 s s w5 hn hAA hN (fun _ _ => rfl)).mono ?_
                      rintro e w6 ⟨rfl, hb6⟩
                      have hoA6 := hoA5.later hb6
                      have hoB6 := hoB5.later hb6
                      have hoC6 := hoC.later hb6
                      have hbbg := hbbf.trans (hb6.mono hbbf.size)
                      clear hAA hN hof hbbf hoA5 hoB5 hoC hb6
                      obtain ⟨a7, c7, A7, hsl5, hA7⟩ := cutlo hoA6 k hkn
                      obtain ⟨a8', c8', A8', hsl6, hA8⟩ := cuthi hoA6 k hkn
                      obtain ⟨b7, d7, B7, f7, hB7⟩ := hoB6.sl
                      obtain ⟨rfl, rfl⟩ : some (⟨h4, 0, none⟩ : Addr) = b7 ∧ k = d7 := by simpa using f7
                      obtain ⟨b8, d8, B8, f8, hB8⟩ := hoC6.sl
                      obtain ⟨rfl, rfl⟩ : some (⟨h5, 0, none⟩ : Addr) = b8 ∧ n - k = d8 := by simpa using f8
                      clear f7 f8 hoA6 hoB6 hoC6
                      have hsum : (((k : Int) + ((n - k : Nat) : Int)) != (n : Int)) = false := by simp; omega
                      go_wp2_with fail
                      refine (eqs_any a7 _ k c7 _ A7 B7 s s w6 hk20 hA7 hB7 (fun _ _ => rfl)).mono ?_
                      rintro e w7 ⟨rfl, hb7⟩
                      have hA9 := hA8.later hb7
                      have hB9 := hB8.later hb7
                      have hbbh := hbbg.trans (hb7.mono hbbg.size)
                      clear hA7 hB7 hA8 hB8 hb7 hsl5
                      go_wp2_with fail
                      refine (eqs_any a8' _ (n - k) c8' _ A8' B8 _ _ w7 hk21 hA9 hB9 (fun _ _ => rfl)).mono ?_
                      rintro e w8 ⟨rfl, hb8⟩
                      have hbbi := hbbh.trans (hb8.mono hbbh.size)
                      go_wp2
                      go_ret
                      exact ⟨rfl, hbbi⟩
end Go.Proofs.Qxb6632495a
