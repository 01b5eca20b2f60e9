import Derived.Test.Qxb6613846aPl
namespace Go.Proofs.Qxb6613846a.Pl

/-- Is one of the first k decisions behind round B? -/
def above (B : Int) (DR : Nat → Int) : Nat → Bool
  | 0 => false
  | k + 1 => above B DR k || decide (B < DR k)
theorem above_mono {B : Int} {DR : Nat → Int} {b c : Nat} (h : b ≤ c) (hs : above B DR b = true) : above B DR c = true := by
  induction c with
  | zero => obtain rfl : b = 0 := by omega
            exact hs
  | succ c ih =>
    rcases Nat.lt_or_ge c b with h1 | h1
    · obtain rfl : b = c + 1 := by omega
      exact hs
    · unfold above; rw [ih h1]; rfl
end Go.Proofs.Qxb6613846a.Pl
