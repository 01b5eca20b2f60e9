/-
  The plain ties between the model's answers and the judge's. No program in sight.
-/
import Derived.Test.Qxb6613846aPl2
namespace Go.Proofs.Qxb6613846a.Pl

theorem okOf_true (R : Int) : okOf true R = inR R R := by
  funext r
  show (r == R) = (decide (R ≤ r) && decide (r ≤ R))
  rw [Bool.eq_iff_iff]
  simp
  omega
theorem okOf_false (R : Int) : okOf false R = inR 1 R := rfl

theorem late_eq (R f D r : Int) (hf : 0 ≤ f) (hD : 1 ≤ D) : late R f D r = decide ((if R < f / D + 2 then R else f / D + 2) < r) := by
  have key : f / D < r - 2 ↔ f < (r - 2) * D := Int.ediv_lt_iff_lt_mul (by omega)
  have h1 : f < (r - 2) * D → 2 < r := fun h => by
    rcases Int.lt_or_le 2 r with h2 | h2
    · exact h2
    · have : (r - 2) * D ≤ 0 := Int.mul_nonpos_of_nonpos_of_nonneg (by omega) (by omega)
      omega
  have h2 : 2 < r → f < r - 2 → f < (r - 2) * D := fun a b => by
    have : (r - 2) * 1 ≤ (r - 2) * D := Int.mul_le_mul_of_nonneg_left hD (by omega)
    omega
  rw [Bool.eq_iff_iff]
  unfold late
  simp only [Bool.or_eq_true, Bool.and_eq_true, decide_eq_true_eq]
  generalize (r - 2) * D = p at *
  generalize f / D = q at *
  split <;> constructor <;> intro h <;> omega

theorem someLate_eq (R f D : Int) (hf : 0 ≤ f) (hD : 1 ≤ D) (DR : Nat → Int) : ∀ k, someLate R f D DR k = above (if R < f / D + 2 then R else f / D + 2) DR k
  | 0 => rfl
  | k + 1 => by
    show (someLate R f D DR k || late R f D (DR k)) = (above _ DR k || _)
    rw [someLate_eq R f D hf hD DR k, late_eq R f D _ hf hD]

/-- A deadline that is met in round R is met in rounds 1 .. R. -/
theorem onT_wider {ok ok' : Int → Bool} (h : ∀ r, ok r = true → ok' r = true) (DP DR : Nat → Int) (p : Int) : ∀ k, onT ok DP DR p k = true → onT ok' DP DR p k = true
  | 0, e => e
  | k + 1, e => by
    show (if DP k == p then ok' (DR k) else onT ok' DP DR p k) = true
    have e' : (if DP k == p then ok (DR k) else onT ok DP DR p k) = true := e
    cases hc : (DP k == p)
    · rw [hc] at e'
      exact onT_wider h DP DR p k e'
    · rw [hc] at e'
      exact h _ e'
theorem term_wider {ok ok' : Int → Bool} (h : ∀ r, ok r = true → ok' r = true) (CP : Nat → Int) (lc : Nat) (DP DR : Nat → Int) (ld : Nat) : ∀ i, term ok CP lc DP DR ld i = true → term ok' CP lc DP DR ld i = true
  | 0, e => e
  | i + 1, e => by
    have e' : (term ok CP lc DP DR ld i && (crashed CP ((i : Int) + 1) lc || onT ok DP DR ((i : Int) + 1) ld)) = true := e
    show (term ok' CP lc DP DR ld i && (crashed CP ((i : Int) + 1) lc || onT ok' DP DR ((i : Int) + 1) ld)) = true
    rw [Bool.and_eq_true] at e' ⊢
    refine ⟨term_wider h CP lc DP DR ld i e'.1, ?_⟩
    have e2 := e'.2
    cases hc : crashed CP ((i : Int) + 1) lc
    · rw [hc] at e2
      exact onT_wider h DP DR _ ld e2
    · rfl
theorem inR_wider (R : Int) (h : 1 ≤ R) : ∀ r, inR R R r = true → inR 1 R r = true := fun r e => by
  simp [inR] at e ⊢
  omega
end Go.Proofs.Qxb6613846a.Pl
