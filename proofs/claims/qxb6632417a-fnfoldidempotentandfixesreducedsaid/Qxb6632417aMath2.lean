/-
  PLAIN MATHEMATICS (2): limbs of 56 bits; carry; fold. No Go in sight.
-/
import Derived.Test.Qxb6632417aMath
namespace Go.Proofs.Qxb6632417a

/-- 2^(56 k). -/
def LK : Nat → Int | 0 => 1 | k + 1 => 72057594037927936 * LK k

/-- The number that the eight limbs stand for. -/
def L8 (g : Nat → Int) : Int :=
  g 0 + 72057594037927936 * (g 1 + 72057594037927936 * (g 2 + 72057594037927936 * (g 3 + 72057594037927936 * (g 4 + 72057594037927936 * (g 5 + 72057594037927936 * (g 6 + 72057594037927936 * g 7))))))
theorem L8_eq (g : Nat → Int) : Hz g 8 0 = L8 g := by simp [Hz, L8]

theorem L8_upd (g : Nat → Int) (k : Nat) (hk : k < 8) (v : Int) : L8 (upd g k v) = L8 g + (v - g k) * LK k := by
  refine lt8 (P := fun k => L8 (upd g k v) = L8 g + (v - g k) * LK k) ?_ ?_ ?_ ?_ ?_ ?_ ?_ ?_ k hk <;> (simp [L8, upd, LK]; omega)

theorem PP_LK : PP = LK 8 - LK 4 - 1 := by decide +kernel

/-- A round of carry keeps the number. -/
theorem carry_step (h : Nat → Int) (k : Nat) (hk : k < 7) : L8 (upd (upd h (k + 1) (h (k + 1) + h k / 72057594037927936)) k (h k % 72057594037927936)) = L8 h := by
  rw [L8_upd _ k (by omega), L8_upd _ (k + 1) (by omega), upd_other _ _ _ _ (by omega)]
  simp only [LK]
  have e : h k % 72057594037927936 - h k = - (72057594037927936 * (h k / 72057594037927936)) := by omega
  rw [e, show h (k + 1) + h k / 72057594037927936 - h (k + 1) = h k / 72057594037927936 from by omega]
  generalize h k / 72057594037927936 = q
  rw [Int.neg_mul, ← Int.mul_assoc q, Int.mul_comm q 72057594037927936]
  omega

/-- What carry does with the topmost bits. -/
theorem carry_top (h : Nat → Int) (h' : Nat → Int) (top : Int) (ht : top = h 7 / 72057594037927936) (h0 : h' 0 = h 0 + top) (h4 : h' 4 = h 4 + top) (h7 : h' 7 = h 7 % 72057594037927936)
    (hr : h' 1 = h 1 ∧ h' 2 = h 2 ∧ h' 3 = h 3 ∧ h' 5 = h 5 ∧ h' 6 = h 6) : L8 h = L8 h' + top * PP := by
  obtain ⟨r1, r2, r3, r5, r6⟩ := hr
  rw [PP_LK]
  simp only [LK, L8]
  rw [h0, h4, h7, r1, r2, r3, r5, r6]
  have e : h 7 % 72057594037927936 = h 7 - 72057594037927936 * top := by rw [ht]; omega
  rw [e]
  omega

/-- Word j of t while fold's counter stands at i. -/
def F (t : Nat → Int) (i j : Nat) : Int :=
  if 12 ≤ j then t j
  else if 8 ≤ j then t j + (if i < j + 4 then t (j + 4) else 0)
  else if 4 ≤ j then t j + (if i < j + 8 then t (j + 8) else 0) + (if i < j + 4 then t (j + 4) + t (j + 8) else 0)
  else t j + (if i < j + 8 then t (j + 8) + t (j + 12) else 0)

theorem lt16' {P : Nat → Prop} (h0 : P 0) (h1 : P 1) (h2 : P 2) (h3 : P 3) (h4 : P 4) (h5 : P 5) (h6 : P 6) (h7 : P 7) (h8 : P 8) (h9 : P 9) (h10 : P 10) (h11 : P 11) (h12 : P 12) (h13 : P 13) (h14 : P 14) (h15 : P 15) (m : Nat) (hm : m < 16) : P m := by
  by_cases h : m < 8
  · exact lt8 h0 h1 h2 h3 h4 h5 h6 h7 m h
  · obtain ⟨n, rfl⟩ : ∃ n, m = n + 8 := ⟨m - 8, by omega⟩
    exact lt8 (P := fun n => P (n + 8)) h8 h9 h10 h11 h12 h13 h14 h15 n (by omega)

theorem F_start (t : Nat → Int) (j : Nat) (hj : j < 16) : F t 15 j = t j := by
  refine lt16' (P := fun j => F t 15 j = t j) ?_ ?_ ?_ ?_ ?_ ?_ ?_ ?_ ?_ ?_ ?_ ?_ ?_ ?_ ?_ ?_ j hj <;> simp [F]

theorem F_step (t h : Nat → Int) (m : Nat) (hm : m < 8) (hh : ∀ j, j < 16 → h j = F t (m + 8) j) (j : Nat) (hj : j < 16) :
    upd (upd h (m + 4) (h (m + 4) + h (m + 8))) m (h m + h (m + 8)) j = F t (m + 7) j := by
  have e : ∀ j, j < 16 → upd (upd h (m + 4) (h (m + 4) + h (m + 8))) m (h m + h (m + 8)) j = upd (upd (F t (m + 8)) (m + 4) (F t (m + 8) (m + 4) + F t (m + 8) (m + 8))) m (F t (m + 8) m + F t (m + 8) (m + 8)) j := by
    intro j hj
    rw [hh (m + 4) (by omega), hh (m + 8) (by omega), hh m (by omega)]
    by_cases e1 : j = m
    · rw [e1, upd_same, upd_same]
    · rw [upd_other _ _ _ _ e1, upd_other _ _ _ _ e1]
      by_cases e2 : j = m + 4
      · rw [e2, upd_same, upd_same]
      · rw [upd_other _ _ _ _ e2, upd_other _ _ _ _ e2]; exact hh j hj
  rw [e j hj]
  clear e hh
  refine lt8 (P := fun m => upd (upd (F t (m + 8)) (m + 4) (F t (m + 8) (m + 4) + F t (m + 8) (m + 8))) m (F t (m + 8) m + F t (m + 8) (m + 8)) j = F t (m + 7) j) ?_ ?_ ?_ ?_ ?_ ?_ ?_ ?_ m hm
  all_goals
    refine lt16' (P := fun j => upd (upd (F t (_ + 8)) (_ + 4) _) _ _ j = F t (_ + 7) j) ?_ ?_ ?_ ?_ ?_ ?_ ?_ ?_ ?_ ?_ ?_ ?_ ?_ ?_ ?_ ?_ j hj <;> (simp [F, upd] <;> omega)

/-- fold's documented domain. -/
def Dom (t : Nat → Int) : Prop := (∀ j, j < 15 → 0 ≤ t j ∧ t j ≤ 72057594037927935) ∧ 0 ≤ t 15 ∧ t 15 < 1152921504606846976

theorem Dom.bd {t : Nat → Int} (h : Dom t) (j : Nat) (hj : j < 16) : 0 ≤ t j ∧ t j < 1152921504606846976 := by
  by_cases e : j = 15
  · subst e; exact h.2
  · have := h.1 j (by omega); omega

theorem F_bound (t : Nat → Int) (h : Dom t) (i j : Nat) (hj : j < 16) : 0 ≤ F t i j ∧ F t i j < 4611686018427387904 := by
  unfold F
  have b := h.bd j hj
  by_cases h12 : 12 ≤ j
  · rw [if_pos h12]; omega
  · rw [if_neg h12]
    have b4 := h.bd (j + 4) (by omega)
    by_cases h8 : 8 ≤ j
    · rw [if_pos h8]; split <;> omega
    · rw [if_neg h8]
      have b8 := h.bd (j + 8) (by omega)
      by_cases h4 : 4 ≤ j
      · rw [if_pos h4]; split <;> split <;> omega
      · rw [if_neg h4]
        have b12 := h.bd (j + 12) (by omega)
        split <;> omega

theorem fold_val (t h : Nat → Int) (hh : ∀ j, j < 16 → h j = F t 7 j) : ∃ q, Hz t 16 0 = L8 h + q * PP := by
  have c0 := hh 0 (by omega); have c1 := hh 1 (by omega); have c2 := hh 2 (by omega); have c3 := hh 3 (by omega)
  have c4 := hh 4 (by omega); have c5 := hh 5 (by omega); have c6 := hh 6 (by omega); have c7 := hh 7 (by omega)
  simp [F] at c0 c1 c2 c3 c4 c5 c6 c7
  refine ⟨(t 8 + t 12) + 72057594037927936 * ((t 9 + t 13) + 72057594037927936 * ((t 10 + t 14) + 72057594037927936 * ((t 11 + t 15) + 72057594037927936 * (t 12 + 72057594037927936 * (t 13 + 72057594037927936 * (t 14 + 72057594037927936 * t 15)))))), ?_⟩
  rw [PP_eq]
  simp only [L8, Hz, Nat.reduceAdd]
  rw [c0, c1, c2, c3, c4, c5, c6, c7]
  omega

/-- What fold leaves in t and hands back. -/
structure FoldIs (t t' r : Nat → Int) : Prop where
  hi : ∀ j, 12 ≤ j → j < 16 → t' j = t j
  mid : ∀ j, 8 ≤ j → j < 12 → t' j = t j + t (j + 4)
  bd : ∀ j, j < 16 → 0 ≤ t' j ∧ t' j < 4611686018427387904
  val : L8 t' % PP = Hz t 16 0 % PP
  rval : L8 r % PP = Hz t 16 0 % PP
  rbd : ∀ j, j < 8 → 0 ≤ r j ∧ r j ≤ 72057594037928191
  rbd56 : ∀ j, j < 8 → j ≠ 0 → j ≠ 4 → r j ≤ 72057594037927935
  fix : (∀ j, 8 ≤ j → j < 16 → t j = 0) → (∀ j, j < 8 → r j = t j) ∧ ∀ j, j < 16 → t' j = t j

theorem FoldIs.of (t h r : Nat → Int) (hd : Dom t) (hh : ∀ j, j < 16 → h j = F t 7 j) (rbd : ∀ j, j < 8 → 0 ≤ r j ∧ r j ≤ 72057594037928191) (rbd56 : ∀ j, j < 8 → j ≠ 0 → j ≠ 4 → r j ≤ 72057594037927935)
    (rval : ∃ q, L8 h = L8 r + q * PP) (rfix : (∀ j, j < 8 → h j ≤ 72057594037927935) → ∀ j, j < 8 → r j = h j) : FoldIs t h r := by
  have hv : L8 h % PP = Hz t 16 0 % PP := by
    obtain ⟨q, e⟩ := fold_val t h hh
    rw [e, Int.add_mul_emod_self_right]
  refine ⟨fun j h1 h2 => ?_, fun j h1 h2 => ?_, fun j hj => ?_, hv, ?_, rbd, rbd56, fun hz => ?_⟩
  · rw [hh j h2]; simp [F, h1]
  · rw [hh j (by omega)]; simp [F, h1]; omega
  · rw [hh j hj]; exact F_bound t hd 7 j hj
  · obtain ⟨q, e⟩ := rval
    rw [← hv, e, Int.add_mul_emod_self_right]
  · have z : ∀ j, j < 16 → h j = t j := by
      have z8 := hz 8 (by omega) (by omega); have z9 := hz 9 (by omega) (by omega); have z10 := hz 10 (by omega) (by omega); have z11 := hz 11 (by omega) (by omega)
      have z12 := hz 12 (by omega) (by omega); have z13 := hz 13 (by omega) (by omega); have z14 := hz 14 (by omega) (by omega); have z15 := hz 15 (by omega) (by omega)
      intro j hj
      rw [hh j hj]
      refine lt16' (P := fun j => F t 7 j = t j) ?_ ?_ ?_ ?_ ?_ ?_ ?_ ?_ ?_ ?_ ?_ ?_ ?_ ?_ ?_ ?_ j hj <;> (simp [F] <;> omega)
    refine ⟨fun j hj => ?_, z⟩
    rw [rfix (fun j hj => by rw [z j (by omega)]; exact (hd.1 j (by omega)).2) j hj, z j (by omega)]

end Go.Proofs.Qxb6632417a
