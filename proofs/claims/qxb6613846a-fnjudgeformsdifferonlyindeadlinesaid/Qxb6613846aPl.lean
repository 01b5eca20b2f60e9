/-
  The plain functions of the model and of the judge, and the laws that tie them. No program in sight.
-/
namespace Go.Proofs.Qxb6613846a.Pl

/-- Is V a among V 0 .. V (b - 1)? -/
def seen (V : Nat → ByteArray) (v : ByteArray) : Nat → Bool
  | 0 => false
  | b + 1 => seen V v b || ((V b).toList == v.toList)
theorem seen_mono (V : Nat → ByteArray) (v : ByteArray) {b c : Nat} (h : b ≤ c) (hs : seen V v b = true) : seen V v c = true := by
  induction c with
  | zero => obtain rfl : b = 0 := by omega
            exact hs
  | succ c ih =>
    rcases Nat.lt_or_ge c b with h1 | h1
    · obtain rfl : b = c + 1 := by omega
      exact hs
    · unfold seen; rw [ih h1]; rfl
/-- How many of the first a values hold no value that stood before. -/
def dcount (V : Nat → ByteArray) : Nat → Nat
  | 0 => 0
  | a + 1 => dcount V a + if seen V (V a) a then 0 else 1
theorem dcount_le (V : Nat → ByteArray) (a : Nat) : dcount V a ≤ a := by
  induction a with
  | zero => exact Nat.le_refl _
  | succ a ih => unfold dcount; split <;> omega
/-- Is each of the first a values among the first n inputs? -/
def allIn (I : Nat → ByteArray) (n : Nat) (V : Nat → ByteArray) : Nat → Bool
  | 0 => true
  | a + 1 => allIn I n V a && seen I (V a) n
theorem allIn_mono (I : Nat → ByteArray) (n : Nat) (V : Nat → ByteArray) {b c : Nat} (h : b ≤ c) (hs : allIn I n V b = false) : allIn I n V c = false := by
  induction c with
  | zero => obtain rfl : b = 0 := by omega
            exact hs
  | succ c ih =>
    rcases Nat.lt_or_ge c b with h1 | h1
    · obtain rfl : b = c + 1 := by omega
      exact hs
    · unfold allIn; rw [ih h1]; rfl
/-- Does one of the first k crashes name p? -/
def crashed (CP : Nat → Int) (p : Int) : Nat → Bool
  | 0 => false
  | k + 1 => crashed CP p k || (CP k == p)
theorem crashed_mono (CP : Nat → Int) (p : Int) {b c : Nat} (h : b ≤ c) (hs : crashed CP p b = true) : crashed CP p c = true := by
  induction c with
  | zero => obtain rfl : b = 0 := by omega
            exact hs
  | succ c ih =>
    rcases Nat.lt_or_ge c b with h1 | h1
    · obtain rfl : b = c + 1 := by omega
      exact hs
    · unfold crashed; rw [ih h1]; rfl
/-- Is the last of p's decisions among the first k, if any, on time? -/
def onT (ok : Int → Bool) (DP DR : Nat → Int) (p : Int) : Nat → Bool
  | 0 => false
  | k + 1 => if DP k == p then ok (DR k) else onT ok DP DR p k
/-- Are processes 1 .. i done: crashed or on time? -/
def term (ok : Int → Bool) (CP : Nat → Int) (lc : Nat) (DP DR : Nat → Int) (ld : Nat) : Nat → Bool
  | 0 => true
  | i + 1 => term ok CP lc DP DR ld i && (crashed CP ((i : Int) + 1) lc || onT ok DP DR ((i : Int) + 1) ld)
theorem term_mono {ok : Int → Bool} {CP : Nat → Int} {lc : Nat} {DP DR : Nat → Int} {ld : Nat} {b c : Nat} (h : b ≤ c) (hs : term ok CP lc DP DR ld b = false) : term ok CP lc DP DR ld c = false := by
  induction c with
  | zero => obtain rfl : b = 0 := by omega
            exact hs
  | succ c ih =>
    rcases Nat.lt_or_ge c b with h1 | h1
    · obtain rfl : b = c + 1 := by omega
      exact hs
    · unfold term; rw [ih h1]; rfl
/-- In rounds lo .. hi. -/
def inR (lo hi r : Int) : Bool := decide (lo ≤ r) && decide (r ≤ hi)
/-- The deadline: plain: in round R; else in rounds 1 .. R. -/
def okOf (plain : Bool) (R r : Int) : Bool := if plain then r == R else inR 1 R r
/-- The senders of a full round. -/
def senders (N K M L : Int) : Int := if N < M * (K / L) + K % L then N else M * (K / L) + K % L
/-- Is a decision in round r late? -/
def late (R f D r : Int) : Bool := decide (R < r) || (decide (2 < r) && (decide (f < r - 2) || decide (f < (r - 2) * D)))
/-- Is one of the first k decisions late? -/
def someLate (R f D : Int) (DR : Nat → Int) : Nat → Bool
  | 0 => false
  | k + 1 => someLate R f D DR k || late R f D (DR k)
theorem someLate_mono {R f D : Int} {DR : Nat → Int} {b c : Nat} (h : b ≤ c) (hs : someLate R f D DR b = true) : someLate R f D DR c = true := by
  induction c with
  | zero => obtain rfl : b = 0 := by omega
            exact hs
  | succ c ih =>
    rcases Nat.lt_or_ge c b with h1 | h1
    · obtain rfl : b = c + 1 := by omega
      exact hs
    · unfold someLate; rw [ih h1]; rfl
theorem div_bd (K L : Int) (k1 : 1 ≤ K) (k2 : K ≤ 1073741824) (l1 : 1 ≤ L) : 0 ≤ K / L ∧ K / L ≤ 1073741824 :=
  ⟨Int.ediv_nonneg (by omega) (by omega), Int.le_trans (Int.ediv_le_self L (by omega)) k2⟩
theorem mod_bd (K L : Int) (l1 : 1 ≤ L) (l2 : L ≤ 1073741824) : 0 ≤ K % L ∧ K % L ≤ 1073741824 :=
  ⟨Int.emod_nonneg _ (by omega), by have := Int.emod_lt_of_pos K (show 0 < L by omega); omega⟩
theorem mul_bd (M q : Int) (m1 : 1 ≤ M) (m2 : M ≤ 16384) (q0 : 0 ≤ q) (q1 : q ≤ 1073741824) : q ≤ M * q ∧ M * q ≤ 17592186044416 := by
  have a := Int.mul_le_mul_of_nonneg_right m1 q0
  have b := Int.mul_le_mul_of_nonneg_right m2 q0
  omega
/-- No round without a sender. -/
theorem one_le (M K L : Int) (k1 : 1 ≤ K) (l1 : 1 ≤ L) (m1 : 1 ≤ M) : 1 ≤ M * (K / L) + K % L := by
  have q0 : 0 ≤ K / L := Int.ediv_nonneg (by omega) (by omega)
  have a := Int.mul_le_mul_of_nonneg_right m1 q0
  have r0 : 0 ≤ K % L := Int.emod_nonneg _ (by omega)
  have e := Int.mul_ediv_add_emod K L
  rcases Int.lt_or_le 0 (K / L) with h | h
  · omega
  · have h0 : K / L = 0 := by omega
    rw [h0, Int.mul_zero] at e
    omega
theorem senders_bd (N K M L : Int) (n1 : 1 ≤ N) (n2 : N ≤ 65536) (k1 : 1 ≤ K) (l1 : 1 ≤ L) (m1 : 1 ≤ M) : 1 ≤ senders N K M L ∧ senders N K M L ≤ 65536 := by
  have := one_le M K L k1 l1 m1
  unfold senders; split <;> omega
end Go.Proofs.Qxb6613846a.Pl
