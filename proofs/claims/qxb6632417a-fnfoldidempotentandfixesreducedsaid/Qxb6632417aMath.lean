/-
  PLAIN MATHEMATICS for the seat: eight words of 64 bits, p = 2^448 - 2^224 - 1. No Go in sight.
-/
namespace Go.Proofs.Qxb6632417a

/-- Word k of p. -/
def pw (k : Nat) : Int := if k = 7 then 0 else if k = 3 then 18446744069414584319 else 18446744073709551615

/-- The number that eight 64-bit words stand for. -/
def V8 (g : Nat → Int) : Int :=
  g 0 + 18446744073709551616 * (g 1 + 18446744073709551616 * (g 2 + 18446744073709551616 * (g 3 + 18446744073709551616 * (g 4 + 18446744073709551616 * (g 5 + 18446744073709551616 * (g 6 + 18446744073709551616 * g 7))))))

def PP : Int := V8 pw

/-- Each of the eight is a word. -/
def Word8 (g : Nat → Int) : Prop := ∀ j, j < 8 → 0 ≤ g j ∧ g j ≤ 18446744073709551615

theorem PP_eq : PP = 726838724295606890549323807888004534353641360687318060281490199180612328166730772686396383698676545930088884461843637361053498018365439 := by decide +kernel

theorem lt8 {P : Nat → Prop} (h0 : P 0) (h1 : P 1) (h2 : P 2) (h3 : P 3) (h4 : P 4) (h5 : P 5) (h6 : P 6) (h7 : P 7) (m : Nat) (hm : m < 8) : P m := by
  match m, hm with
  | 0, _ => exact h0
  | 1, _ => exact h1
  | 2, _ => exact h2
  | 3, _ => exact h3
  | 4, _ => exact h4
  | 5, _ => exact h5
  | 6, _ => exact h6
  | 7, _ => exact h7

theorem ge_at (g : Nat → Int) (hw : Word8 g) (m : Nat) (hm : m < 8) (he : ∀ j, m < j → j < 8 → g j = pw j) (h : pw m < g m) : PP ≤ V8 g := by
  have b0 := hw 0 (by omega); have b1 := hw 1 (by omega); have b2 := hw 2 (by omega); have b3 := hw 3 (by omega)
  have b4 := hw 4 (by omega); have b5 := hw 5 (by omega); have b6 := hw 6 (by omega); have b7 := hw 7 (by omega)
  rw [PP_eq]
  unfold V8
  revert he h
  refine lt8 (P := fun m => (∀ j, m < j → j < 8 → g j = pw j) → pw m < g m → _) ?_ ?_ ?_ ?_ ?_ ?_ ?_ ?_ m hm <;> intro he h
  all_goals
    have c1 := he 1; have c2 := he 2; have c3 := he 3; have c4 := he 4; have c5 := he 5; have c6 := he 6; have c7 := he 7
    simp [pw] at c1 c2 c3 c4 c5 c6 c7 h
    omega

theorem lt_at (g : Nat → Int) (hw : Word8 g) (m : Nat) (hm : m < 8) (he : ∀ j, m < j → j < 8 → g j = pw j) (h : g m < pw m) : V8 g < PP := by
  have b0 := hw 0 (by omega); have b1 := hw 1 (by omega); have b2 := hw 2 (by omega); have b3 := hw 3 (by omega)
  have b4 := hw 4 (by omega); have b5 := hw 5 (by omega); have b6 := hw 6 (by omega); have b7 := hw 7 (by omega)
  rw [PP_eq]
  unfold V8
  revert he h
  refine lt8 (P := fun m => (∀ j, m < j → j < 8 → g j = pw j) → g m < pw m → _) ?_ ?_ ?_ ?_ ?_ ?_ ?_ ?_ m hm <;> intro he h
  all_goals
    have c1 := he 1; have c2 := he 2; have c3 := he 3; have c4 := he 4; have c5 := he 5; have c6 := he 6; have c7 := he 7
    simp [pw] at c1 c2 c3 c4 c5 c6 c7 h
    omega

theorem eq_all (g : Nat → Int) (he : ∀ j, j < 8 → g j = pw j) : PP ≤ V8 g := by
  have c0 := he 0; have c1 := he 1; have c2 := he 2; have c3 := he 3; have c4 := he 4; have c5 := he 5; have c6 := he 6; have c7 := he 7
  simp [pw] at c0 c1 c2 c3 c4 c5 c6 c7
  rw [PP_eq]
  unfold V8
  omega

/-- g with word m replaced. -/
def upd (g : Nat → Int) (m : Nat) (v : Int) : Nat → Int := fun j => if j = m then v else g j
theorem upd_same (g : Nat → Int) (m : Nat) (v : Int) : upd g m v m = v := by simp [upd]
theorem upd_other (g : Nat → Int) (m j : Nat) (v : Int) (h : j ≠ m) : upd g m v j = g j := by simp [upd, h]
theorem Word8.upd {g : Nat → Int} (h : Word8 g) (m : Nat) (v : Int) (h0 : 0 ≤ v) (h1 : v ≤ 18446744073709551615) : Word8 (upd g m v) := by
  intro j hj
  by_cases e : j = m
  · subst e; rw [upd_same]; exact ⟨h0, h1⟩
  · rw [upd_other _ _ _ _ e]; exact h j hj

/-- Word j of 2g. -/
def dbl (g : Nat → Int) (j : Nat) : Int := match j with | 0 => (g 0 * 2) % 18446744073709551616 | j + 1 => (g (j + 1) * 2) % 18446744073709551616 + g j / 9223372036854775808

theorem dbl_word (g : Nat → Int) (hw : Word8 g) : Word8 (dbl g) := by
  intro j hj
  cases j with
  | zero => have := hw 0 (by omega); simp only [dbl]; omega
  | succ j => have := hw j (by omega); have := hw (j + 1) hj; simp only [dbl]; omega

theorem dbl_val (g g' : Nat → Int) (hw : Word8 g) (hd : ∀ j, j < 8 → g' j = dbl g j) (h : V8 g < PP) : V8 g' = 2 * V8 g := by
  have b0 := hw 0 (by omega); have b1 := hw 1 (by omega); have b2 := hw 2 (by omega); have b3 := hw 3 (by omega)
  have b4 := hw 4 (by omega); have b5 := hw 5 (by omega); have b6 := hw 6 (by omega); have b7 := hw 7 (by omega)
  have c0 := hd 0 (by omega); have c1 := hd 1 (by omega); have c2 := hd 2 (by omega); have c3 := hd 3 (by omega)
  have c4 := hd 4 (by omega); have c5 := hd 5 (by omega); have c6 := hd 6 (by omega); have c7 := hd 7 (by omega)
  simp only [dbl, Nat.reduceAdd] at c0 c1 c2 c3 c4 c5 c6 c7
  rw [PP_eq] at h
  have e : ∀ x : Int, (x * 2) % 18446744073709551616 = x * 2 - 18446744073709551616 * (x / 9223372036854775808) := fun x => by omega
  rw [e] at c0 c1 c2 c3 c4 c5 c6 c7
  unfold V8 at *
  have e7 : g 7 = 0 := by omega
  rw [e7] at c7 h ⊢
  rw [c0, c1, c2, c3, c4, c5, c6, c7]
  generalize g 0 / 9223372036854775808 = q0
  generalize g 1 / 9223372036854775808 = q1
  generalize g 2 / 9223372036854775808 = q2
  generalize g 3 / 9223372036854775808 = q3
  generalize g 4 / 9223372036854775808 = q4
  generalize g 5 / 9223372036854775808 = q5
  generalize g 6 / 9223372036854775808 = q6
  omega

/-- 2^(64 k). -/
def BK : Nat → Int | 0 => 1 | k + 1 => 18446744073709551616 * BK k
/-- The low k words of p. -/
def PT : Nat → Int | 0 => 0 | k + 1 => PT k + pw k * BK k

theorem V8_upd (g : Nat → Int) (k : Nat) (hk : k < 8) (v : Int) : V8 (upd g k v) = V8 g + (v - g k) * BK k := by
  refine lt8 (P := fun k => V8 (upd g k v) = V8 g + (v - g k) * BK k) ?_ ?_ ?_ ?_ ?_ ?_ ?_ ?_ k hk <;> (simp [V8, upd, BK]; omega)

theorem V8_bound (g : Nat → Int) (hw : Word8 g) : 0 ≤ V8 g ∧ V8 g < BK 8 := by
  have b0 := hw 0 (by omega); have b1 := hw 1 (by omega); have b2 := hw 2 (by omega); have b3 := hw 3 (by omega)
  have b4 := hw 4 (by omega); have b5 := hw 5 (by omega); have b6 := hw 6 (by omega); have b7 := hw 7 (by omega)
  simp only [BK]
  unfold V8
  omega

theorem PT8 : PT 8 = PP := by decide +kernel

/-- One step of the subtraction. -/
theorem sub_step (g g1 : Nat → Int) (k : Nat) (hk : k < 8) (bo nb v : Int) (he : g1 k = g k) (hi : V8 g1 = V8 g - PT k + bo * BK k) (hv : v = g k - pw k - bo + nb * 18446744073709551616) :
    V8 (upd g1 k v) = V8 g - PT (k + 1) + nb * BK (k + 1) := by
  rw [V8_upd g1 k hk, hi, he, hv]
  simp only [PT, BK]
  rw [show g k - pw k - bo + nb * 18446744073709551616 - g k = nb * 18446744073709551616 - pw k - bo from by omega]
  rw [Int.sub_mul, Int.sub_mul, Int.mul_assoc]
  omega

theorem sub_last (g g1 : Nat → Int) (h : Word8 g) (h1 : Word8 g1) (bo : Int) (hbo : bo = 0 ∨ bo = 1) (hi : V8 g1 = V8 g - PT 8 + bo * BK 8) (hp : PP ≤ V8 g) : V8 g1 = V8 g - PP := by
  have a := V8_bound g h; have b := V8_bound g1 h1
  rw [PT8] at hi
  rcases hbo with rfl | rfl <;> omega

theorem add_step (g1 : Nat → Int) (T : Int) (k : Nat) (hk : k < 8) (c nc v : Int) (hi : V8 g1 + c * BK k = T) (hv : v = g1 k + c - nc * 18446744073709551616) :
    V8 (upd g1 k v) + nc * BK (k + 1) = T := by
  rw [V8_upd g1 k hk, ← hi, hv]
  simp only [BK]
  rw [show g1 k + c - nc * 18446744073709551616 - g1 k = c - nc * 18446744073709551616 from by omega, Int.sub_mul, Int.mul_assoc]
  omega

theorem PP_lt : PP + 18446744073709551616 < BK 8 := by decide +kernel
theorem PP_big : 18446744073709551616 < PP := by decide +kernel

theorem add_last (g1 : Nat → Int) (h1 : Word8 g1) (T c : Int) (hc : c = 0 ∨ c = 1) (hT : T < PP + 18446744073709551616) (hi : V8 g1 + c * BK 8 = T) : V8 g1 = T := by
  have a := V8_bound g1 h1
  have b := PP_lt
  rcases hc with rfl | rfl <;> omega

/-- The number that c limbs of 56 bits from limb k on stand for. -/
def Hz (l : Nat → Int) : Nat → Nat → Int
  | 0, _ => 0
  | c + 1, k => l k + 72057594037927936 * Hz l c (k + 1)

theorem PP_pos : 0 < PP := by decide +kernel

/-- 2^j. -/
def P2 : Nat → Int | 0 => 1 | j + 1 => 2 * P2 j
theorem P2_56 : P2 56 = 72057594037927936 := by decide +kernel

theorem dbl_mod (A : Int) (j : Nat) : (2 * ((A * P2 j) % PP)) % PP = (A * P2 (j + 1)) % PP := by
  rw [Int.mul_emod, Int.emod_emod_of_dvd _ (Int.dvd_refl PP), ← Int.mul_emod]
  simp only [P2]
  congr 1
  rw [← Int.mul_assoc, Int.mul_comm 2 A, Int.mul_assoc]

theorem two_mod_ge (V : Int) (h1 : V < PP) (h : PP ≤ 2 * V) : 2 * V - PP = (2 * V) % PP := by
  have := PP_pos
  rw [← Int.sub_emod_right, Int.emod_eq_of_lt (by omega) (by omega)]

theorem horner_mod (H x : Int) : ((H % PP * 72057594037927936) % PP + x) % PP = (x + 72057594037927936 * H) % PP := by
  rw [Int.emod_add_emod]
  rw [Int.add_comm, Int.mul_comm (H % PP), ← Int.add_emod_emod, Int.mul_emod, Int.emod_emod_of_dvd _ (Int.dvd_refl PP), ← Int.mul_emod, Int.add_emod_emod]

theorem V8_mod_lt (V T : Int) (h : V = T % PP) : 0 ≤ V ∧ V < PP := by
  have := PP_pos
  subst h
  exact ⟨Int.emod_nonneg _ (by omega), Int.emod_lt_of_pos _ this⟩

end Go.Proofs.Qxb6632417a
