import Derived.Laws.BitsAllLaws
namespace Go.Proofs.Qxb6609497a.Pl

/-- The crashed set after Crash(p). -/
def mark (C : Nat) (p : Int) : Nat := C ||| (if p ≤ 64 then 2 ^ (p - 1).toNat else 0)
/-- The set bits of C among its first k. -/
def cnt (C : Nat) : Nat → Nat
  | 0 => 0
  | k + 1 => cnt C k + if C.testBit k then 1 else 0
theorem cnt_le (C k : Nat) : cnt C k ≤ k := by
  induction k with
  | zero => exact Nat.le_refl _
  | succ k ih => unfold cnt; split <;> omega

theorem mark_lt (C : Nat) (h : C < 18446744073709551616) (p : Int) (p1 : 1 ≤ p) : mark C p < 18446744073709551616 := by
  unfold mark
  have e : (18446744073709551616 : Nat) = 2 ^ 64 := by decide
  rw [e] at h ⊢
  refine Nat.or_lt_two_pow h ?_
  split
  · exact Nat.pow_lt_pow_of_lt (by decide) (by omega)
  · exact Nat.two_pow_pos _

theorem or_mark (c p : Int) (c0 : 0 ≤ c) (c1 : c < 18446744073709551616) (p1 : 1 ≤ p) :
    bits .or .u64 c (IntKind.u64.wrap (2 ^ min (p.toNat - 1) 64)) = ((mark c.toNat p : Nat) : Int) := by
  have e64 : (2 : Int) ^ 64 = 18446744073709551616 := by decide
  unfold mark
  rw [IntKind.wrap_u64]
  by_cases h : p ≤ 64
  · have e : min (p.toNat - 1) 64 = (p - 1).toNat := by omega
    rw [e, if_pos h]
    have hlt : (2 : Int) ^ (p - 1).toNat < 18446744073709551616 := by
      rw [← e64]; exact Int.pow_lt_pow_of_lt (by decide) (by omega)
    have hp : (0 : Int) ≤ 2 ^ (p - 1).toNat := Int.le_of_lt (Int.pow_pos (by decide))
    rw [Int.emod_eq_of_lt hp hlt, u64_or c _ c0 c1 hp hlt]
    have : ((2 : Int) ^ (p - 1).toNat).toNat = 2 ^ (p - 1).toNat := by
      have : ((2 : Int) ^ (p - 1).toNat) = ((2 ^ (p - 1).toNat : Nat) : Int) := by simp
      rw [this, Int.toNat_natCast]
    rw [this]
  · have e : min (p.toNat - 1) 64 = 64 := by omega
    rw [e, if_neg h, e64]
    have : (18446744073709551616 : Int) % 18446744073709551616 = 0 := by decide
    rw [this, u64_or c 0 c0 c1 (by decide) (by decide)]
    simp

theorem bit_eq (c : Int) (k : Nat) (c0 : 0 ≤ c) (c1 : c < 18446744073709551616) : bits .and .u64 (c / 2 ^ k) 1 = if c.toNat.testBit k then 1 else 0 := by
  obtain ⟨C, rfl⟩ := Int.eq_ofNat_of_zero_le c0
  have e : ((C : Int) / 2 ^ k) = ((C / 2 ^ k : Nat) : Int) := by simp
  have hle : C / 2 ^ k ≤ C := Nat.div_le_self _ _
  rw [e, Int.toNat_natCast, Nat.testBit_eq_decide_div_mod_eq]
  generalize C / 2 ^ k = D at *
  rw [u64_and _ 1 (by omega) (by omega) (by decide) (by decide), Int.toNat_natCast]
  have h1 : (1 : Int).toNat = 1 := rfl
  rw [h1, Nat.and_one_is_mod]
  by_cases h : D % 2 = 1
  · simp [h]
  · have : D % 2 = 0 := by omega
    simp [this]

theorem bit_one (c : Int) (k : Nat) (c0 : 0 ≤ c) (c1 : c < 18446744073709551616) : (bits .and .u64 (c / 2 ^ k) 1 == 1) = c.toNat.testBit k := by
  rw [bit_eq c k c0 c1]; cases c.toNat.testBit k <;> rfl
theorem bit_zero (c : Int) (k : Nat) (c0 : 0 ≤ c) (c1 : c < 18446744073709551616) : (bits .and .u64 (c / 2 ^ k) 1 == 0) = !c.toNat.testBit k := by
  rw [bit_eq c k c0 c1]; cases c.toNat.testBit k <;> rfl

theorem mark_bit (C : Nat) (p : Int) (k : Nat) (p1 : 1 ≤ p) (hk : k < 64) : (mark C p).testBit k = (C.testBit k || ((k : Int) + 1 == p)) := by
  unfold mark
  rw [Nat.testBit_or]
  split
  · rw [Nat.testBit_two_pow]
    congr 1
    rw [Bool.eq_iff_iff]
    simp
    omega
  · have : ((k : Int) + 1 == p) = false := by rw [beq_eq_false_iff_ne]; omega
    rw [this]; simp

theorem mark_comm (C : Nat) (p q : Int) : mark (mark C p) q = mark (mark (mark C q) p) p := by
  unfold mark
  generalize (if p ≤ 64 then 2 ^ (p - 1).toNat else 0) = x
  generalize (if q ≤ 64 then 2 ^ (q - 1).toNat else 0) = y
  rw [Nat.or_assoc (C ||| y) x x, Nat.or_self, Nat.or_assoc, Nat.or_comm x y, ← Nat.or_assoc]

theorem cnt_or (C j k : Nat) : cnt (C ||| 2 ^ j) k = cnt C k + if j < k ∧ C.testBit j = false then 1 else 0 := by
  induction k with
  | zero => simp [cnt]
  | succ k ih =>
    unfold cnt
    rw [ih, Nat.testBit_or, Nat.testBit_two_pow]
    by_cases hj : j = k
    · subst hj
      cases C.testBit j <;> simp
    · by_cases h2 : j < k
      · have h3 : j < k + 1 := by omega
        cases C.testBit j <;> cases C.testBit k <;> simp [hj, h2, h3]
      · have h3 : ¬ j < k + 1 := by omega
        cases C.testBit j <;> cases C.testBit k <;> simp [hj, h2, h3]

theorem cnt_mark (C : Nat) (p : Int) (p1 : 1 ≤ p) : cnt (mark C p) 64 = cnt C 64 + if p ≤ 64 ∧ C.testBit (p - 1).toNat = false then 1 else 0 := by
  unfold mark
  by_cases h : p ≤ 64
  · rw [if_pos h, cnt_or]
    have h2 : (p - 1).toNat < 64 := by omega
    simp only [h2, true_and, h]
  · simp [h]
end Go.Proofs.Qxb6609497a.Pl
