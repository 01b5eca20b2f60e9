namespace Go.Proofs.Qxb6613763a.Br

/-- x is the least exponent at which the mantissa of b fits 17 bits. -/
def Fits (b : Int) (x : Nat) : Prop := b / 2 ^ x < 131072 ∧ (0 < x → 131072 ≤ b / 2 ^ (x - 1))

theorem div_anti (b : Int) (h0 : 0 ≤ b) (x y : Nat) (h : x ≤ y) : b / 2 ^ y ≤ b / 2 ^ x := by
  obtain ⟨k, rfl⟩ := Nat.exists_eq_add_of_le h
  obtain ⟨n, rfl⟩ := Int.eq_ofNat_of_zero_le h0
  have : n / 2 ^ (x + k) ≤ n / 2 ^ x := Nat.div_le_div_left (Nat.pow_le_pow_right (by decide) (by omega)) (Nat.two_pow_pos _)
  exact_mod_cast this

theorem fits_unique (b : Int) (h0 : 0 ≤ b) (x y : Nat) (hx : Fits b x) (hy : Fits b y) : x = y := by
  rcases Nat.lt_trichotomy x y with h | h | h
  · have := div_anti b h0 x (y - 1) (by omega)
    have := hy.2 (by omega); have := hx.1; omega
  · exact h
  · have := div_anti b h0 y (x - 1) (by omega)
    have := hx.2 (by omega); have := hy.1; omega

theorem div_succ (b : Int) (x : Nat) : b / 2 ^ (x + 1) = b / 2 ^ x / 2 := by
  rw [Int.pow_succ, Int.ediv_ediv_of_nonneg (Int.le_of_lt (Int.pow_pos (by decide)))]

theorem fits_le (b : Int) (h0 : 0 ≤ b) (h : b < 18446744073709551616) (x : Nat) (hx : Fits b x) : x ≤ 47 := by
  rcases Nat.lt_or_ge 47 x with hc | hc
  · have h1 := div_anti b h0 47 (x - 1) (by omega)
    have h2 := hx.2 (by omega)
    have h3 : b / 2 ^ 47 < 131072 := by have : (2 : Int) ^ 47 = 140737488355328 := by decide
                                        omega
    omega
  · exact hc

theorem fits_half (b : Int) (x : Nat) (hx : Fits b x) (h : 0 < x) : 65536 ≤ b / 2 ^ x := by
  have h2 := hx.2 h
  obtain ⟨k, rfl⟩ : ∃ k, x = k + 1 := ⟨x - 1, by omega⟩
  rw [div_succ]
  simp only [Nat.add_sub_cancel] at h2
  omega

theorem again_fits (b : Int) (x : Nat) (hx : Fits b x) : Fits (b / 2 ^ x * 2 ^ x) x := by
  have hp : (2 : Int) ^ x ≠ 0 := Int.ne_of_gt (Int.pow_pos (by decide))
  refine ⟨by rw [Int.mul_ediv_cancel _ hp]; exact hx.1, fun h => ?_⟩
  have hh := fits_half b x hx h
  obtain ⟨k, rfl⟩ : ∃ k, x = k + 1 := ⟨x - 1, by omega⟩
  have hp' : (2 : Int) ^ k ≠ 0 := Int.ne_of_gt (Int.pow_pos (by decide))
  rw [Nat.add_sub_cancel]
  generalize b / 2 ^ (k + 1) = m at hh ⊢
  rw [Int.pow_succ, show m * (2 ^ k * 2) = (m * 2) * 2 ^ k by rw [Int.mul_comm (2 ^ k) 2, Int.mul_assoc], Int.mul_ediv_cancel _ hp']
  omega

theorem again_mant (b : Int) (x : Nat) : b / 2 ^ x * 2 ^ x / 2 ^ x = b / 2 ^ x :=
  Int.mul_ediv_cancel _ (Int.ne_of_gt (Int.pow_pos (by decide)))

theorem low_le (b : Int) (x : Nat) : b / 2 ^ x * 2 ^ x ≤ b := Int.ediv_mul_le b (Int.ne_of_gt (Int.pow_pos (by decide)))
theorem low_lt (b : Int) (x : Nat) : b - b / 2 ^ x * 2 ^ x < 2 ^ x := by
  have hp : (0 : Int) < 2 ^ x := Int.pow_pos (by decide)
  have := Int.lt_ediv_add_one_mul_self b hp
  rw [Int.add_mul, Int.one_mul] at this
  omega
theorem mant_nonneg (b : Int) (h0 : 0 ≤ b) (x : Nat) : 0 ≤ b / 2 ^ x := Int.ediv_nonneg h0 (Int.le_of_lt (Int.pow_pos (by decide)))

theorem dbl_mant (b : Int) (x : Nat) : 2 * b / 2 ^ (x + 1) = b / 2 ^ x := by
  rw [Int.pow_succ, Int.mul_comm (2 ^ x) 2]
  exact Int.mul_ediv_mul_of_pos _ _ (by decide)

theorem dbl_fits_hi (b : Int) (x : Nat) (hx : Fits b x) (h : 65536 ≤ b / 2 ^ x) : Fits (2 * b) (x + 1) := by
  refine ⟨by rw [dbl_mant]; exact hx.1, fun _ => ?_⟩
  rw [Nat.add_sub_cancel]
  have hp : (0 : Int) < 2 ^ x := Int.pow_pos (by decide)
  have h1 := low_le b x
  rw [Int.le_ediv_iff_mul_le hp]
  have h2 : 65536 * 2 ^ x ≤ b / 2 ^ x * 2 ^ x := Int.mul_le_mul_of_nonneg_right h (Int.le_of_lt hp)
  generalize (2 : Int) ^ x = p at *
  generalize b / p * p = q at *
  omega

theorem dbl_lo (b : Int) (x : Nat) (hx : Fits b x) (h : b / 2 ^ x < 65536) : x = 0 := by
  rcases Nat.eq_zero_or_pos x with h0 | h0
  · exact h0
  · have := fits_half b x hx h0; omega

theorem dbl_fits_lo (b : Int) (h : b < 65536) : Fits (2 * b) 0 := ⟨by simp; omega, fun h => by omega⟩
end Go.Proofs.Qxb6613763a.Br
