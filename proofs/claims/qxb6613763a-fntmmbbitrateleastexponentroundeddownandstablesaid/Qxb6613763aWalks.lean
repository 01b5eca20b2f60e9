import Derived.Test.Qxb6613763aRows
import Derived.Test.Qxb6613763aBr
import Derived.WalkKit
import Derived.WalkSpells
import Derived.WalkLawsBesides
import Derived.LoopTactic
import Derived.Outline
import Derived.RowKit3
namespace Go.Proofs.Qxb6613763a
open Go.RowKit

theorem lt47 (b : Int) (h1 : b < 18446744073709551616) (x : Nat) (hx : x ≤ 47) (h : 131072 ≤ b / 2 ^ x) : x + 1 ≤ 47 := by
  rcases Nat.lt_or_ge x 47 with h2 | h2
  · omega
  · obtain rfl : x = 47 := by omega
    have h3 : (2 : Int) ^ 47 = 140737488355328 := by decide
    rw [h3] at h
    omega

theorem mod32 (b : Int) (h0 : 0 ≤ b) (x : Nat) (h : b / 2 ^ x < 131072) : b / 2 ^ x % 4294967296 = b / 2 ^ x := by
  have := Br.mant_nonneg b h0 x
  omega

set_option maxHeartbeats 400000 in
/-- bitrateOf at 17 bits. -/
theorem bitrate_any (b : Int) (h0 : 0 ≤ b) (h1 : b < 18446744073709551616) (w : World) :
    Calls Try.prog 17 #[.int .u64 b, .int .u64 17] w fun e w' => ∃ x : Nat, Br.Fits b x ∧ e = .returned (.agg #[.int .u8 x, .int .u32 (b / 2 ^ x)]) ∧ ∃ c : Array Value, w' = w.alloc (.cells c 34) := by
  go_enter Try.func17, Try.ntmps17
  go_wp2
  go_loop [5] (fun t => ∃ x : Nat, x ≤ 47 ∧ (0 < x → 131072 ≤ b / 2 ^ (x - 1)) ∧ t = .int .u8 x) (fun t => 48 - (intOf t).toNat)
  case atStart => exact ⟨0, by omega, by omega, rfl⟩
  case round =>
    obtain ⟨x, hx, hlo, rfl⟩ := hrel
    go_wp2
    · have hge : 131072 ≤ b / 2 ^ x := by assumption
      have := lt47 b h1 x hx hge
      go_round
      case rel => exact ⟨x + 1, by omega, fun _ => by simpa using hge, by go_num⟩
      case measure => simp [intOf]; omega
    · have hlt : b / 2 ^ x < 131072 := by assumption
      have hm := mod32 b h0 x hlt
      rw [hm]
      refine bodyPost_ret (v := .agg #[.int .u8 x, .int .u32 (b / 2 ^ x)]) (by simp [results, Try.results17, go_sem]) rfl ⟨x, ⟨hlt, hlo⟩, rfl, _, rfl⟩

/-- TMMBBitrate. -/
theorem tmmb_any (b : Int) (h0 : 0 ≤ b) (h1 : b < 18446744073709551616) (w : World) :
    Calls Try.prog 11 #[.int .u64 b] w fun e w' => ∃ x : Nat, Br.Fits b x ∧ e = .returned (.agg #[.int .u8 x, .int .u32 (b / 2 ^ x)]) ∧ ∃ c d : Array Value, w' = (w.alloc (.cells c 34)).alloc (.cells d 34) := by
  go_enter Try.func11, Try.ntmps11
  go_wp2_with (go_at_call 17; refine (bitrate_any b h0 h1 _).mono ?_; rintro e w' ⟨x, hx, rfl, c, rfl⟩)
  refine bodyPost_ret (v := .agg #[.int .u8 x, .int .u32 (b / 2 ^ x)]) (by simp [results, Try.results11, go_sem]) rfl ⟨x, hx, rfl, _, _, rfl⟩

theorem wrap_in (n : Int) (h0 : 0 ≤ n) (h1 : n < 18446744073709551616) : IntKind.u64.wrap n = n := by
  rw [IntKind.wrap_u64]; exact Int.emod_eq_of_lt h0 h1
theorem pow_lt (x : Nat) (hx : x ≤ 47) : (2 : Int) ^ x < 18446744073709551616 := by
  have h := Int.pow_lt_pow_of_lt (a := 2) (by decide) (show x < 64 by omega)
  have h3 : (2 : Int) ^ 64 = 18446744073709551616 := by decide
  rw [h3] at h; exact h
theorem low0 (b : Int) (h0 : 0 ≤ b) (x : Nat) : 0 ≤ b / 2 ^ x * 2 ^ x :=
  Int.mul_nonneg (Br.mant_nonneg b h0 x) (Int.le_of_lt (Int.pow_pos (by decide)))

/-- roundsDown. -/
theorem rounds_any (b : Int) (h0 : 0 ≤ b) (h1 : b < 18446744073709551616) (x : Nat) (hx : Br.Fits b x) (w : World) :
    Calls Try.prog 12 #[.int .u64 b, .agg #[.int .u8 x, .int .u32 (b / 2 ^ x)]] w fun e w' => e = .returned (.bool true) ∧ ∃ c : Array Value, w' = w.alloc (.cells c 34) := by
  have hx47 := Br.fits_le b h0 h1 x hx
  have hm0 := Br.mant_nonneg b h0 x
  have hm1 := hx.1
  have hl := Br.low_le b x
  have hl' := Br.low_lt b x
  have hl0 := low0 b h0 x
  have e1 : IntKind.u64.wrap (b / 2 ^ x * 2 ^ x) = b / 2 ^ x * 2 ^ x := wrap_in _ hl0 (by omega)
  have e2 : IntKind.u64.wrap (b - b / 2 ^ x * 2 ^ x) = b - b / 2 ^ x * 2 ^ x := wrap_in _ (by omega) (by omega)
  have e3 : IntKind.u64.wrap (2 ^ x) = 2 ^ x := wrap_in _ (Int.le_of_lt (Int.pow_pos (by decide))) (pow_lt x hx47)
  go_enter Try.func12, Try.ntmps12
  go_wp2
  go_ret
  exact ⟨by simp, _, rfl⟩

/-- FnTMMBBitrateLeastExponentRoundedDownAndStable. -/
theorem least_any (b : Int) (h0 : 0 ≤ b) (h1 : b < 18446744073709551616) (w : World) :
    Calls Try.prog 4 #[.int .u64 b] w fun e w' => e = .returned (.bool true) ∧ Grown w w' := by
  go_enter Try.func4, Try.ntmps4
  go_wp2_with fail
  refine (tmmb_any b h0 h1 _).mono ?_
  rintro e w' ⟨x, hx, rfl, c, d, rfl⟩
  have hx47 := Br.fits_le b h0 h1 x hx
  go_wp2_with fail
  refine (rounds_any b h0 h1 x hx _).mono ?_
  rintro e w' ⟨rfl, c2, rfl⟩
  have hm0 := Br.mant_nonneg b h0 x
  have hm1 := hx.1
  have hl := Br.low_le b x
  have hl0 := low0 b h0 x
  have e1 : IntKind.u64.wrap (b / 2 ^ x * 2 ^ x) = b / 2 ^ x * 2 ^ x := wrap_in _ hl0 (by omega)
  have hf := Br.again_fits b x hx
  have tail : ∀ (W : World), Calls Try.prog 11 #[.int .u64 (b / 2 ^ x * 2 ^ x)] W fun e w' => e = .returned (.agg #[.int .u8 x, .int .u32 (b / 2 ^ x)]) ∧ ∃ c d : Array Value, w' = (W.alloc (.cells c 34)).alloc (.cells d 34) := by
    intro W
    refine (tmmb_any _ hl0 (by omega) W).mono ?_
    rintro e w' ⟨y, hy, he, c3, d3, hw⟩
    have hyx := Br.fits_unique _ hl0 y x hy hf
    rw [hyx, Br.again_mant] at he
    exact ⟨he, c3, d3, hw⟩
  have Ht : Hid (∀ (W : World), Calls Try.prog 11 #[.int .u64 (b / 2 ^ x * 2 ^ x)] W fun e w' => e = .returned (.agg #[.int .u8 x, .int .u32 (b / 2 ^ x)]) ∧ ∃ c d : Array Value, w' = (W.alloc (.cells c 34)).alloc (.cells d 34)) := tail
  clear tail
  by_cases hp : 0 < x
  · have hlo := hx.2 hp
    go_wp2_with fail
    refine (Ht.out _).mono ?_
    rintro e w' ⟨rfl, c3, d3, rfl⟩
    go_wp2
    go_ret
    exact ⟨by simp, by repeat (first | exact Grown.refl _ | apply Grown.drew | apply Grown.alloc)⟩
  · go_wp2_with fail
    refine (Ht.out _).mono ?_
    rintro e w' ⟨rfl, c3, d3, rfl⟩
    go_wp2
    go_ret
    exact ⟨by simp, by repeat (first | exact Grown.refl _ | apply Grown.drew | apply Grown.alloc)⟩

/-- FnTMMBBitrateDoubling. -/
theorem doubling_any (b : Int) (h0 : 0 ≤ b) (h1 : b < 18446744073709551616) (w : World) :
    Calls Try.prog 5 #[.int .u64 b] w fun e w' => e = .returned (.bool true) ∧ Grown w w' := by
  by_cases hb : 9223372036854775808 ≤ b
  · go_enter Try.func5, Try.ntmps5
    go_wp2
    go_ret
    exact ⟨rfl, Grown.refl _⟩
  have e1 : IntKind.u64.wrap (2 * b) = 2 * b := wrap_in _ (by omega) (by omega)
  go_enter Try.func5, Try.ntmps5
  go_wp2_with fail
  refine (tmmb_any b h0 h1 _).mono ?_
  rintro e w' ⟨x, hx, rfl, c, d, rfl⟩
  have hx47 := Br.fits_le b h0 h1 x hx
  have hm0 := Br.mant_nonneg b h0 x
  have hm1 := hx.1
  by_cases hhi : 65536 ≤ b / 2 ^ x
  · have hf := Br.dbl_fits_hi b x hx hhi
    go_wp2_with fail
    refine (tmmb_any (2 * b) (by omega) (by omega) _).mono ?_
    rintro e w' ⟨y, hy, he, c3, d3, rfl⟩
    have hyx := Br.fits_unique _ (by omega) y (x + 1) hy hf
    rw [hyx, Br.dbl_mant] at he
    subst he
    clear hy hyx
    go_wp2_with fail
    refine (rounds_any b h0 h1 x hx _).mono ?_
    rintro e w' ⟨rfl, c2, rfl⟩
    go_wp2
    go_ret
    exact ⟨by simp, by repeat (first | exact Grown.refl _ | apply Grown.drew | apply Grown.alloc)⟩
  · obtain rfl := Br.dbl_lo b x hx (by omega)
    simp only [Int.pow_zero, Int.ediv_one] at hm0 hm1 hhi
    have hf := Br.dbl_fits_lo b (by omega)
    have hq : b / 2 ^ 0 = b := by simp
    go_wp2_with fail
    refine (tmmb_any (2 * b) (by omega) (by omega) _).mono ?_
    rintro e w' ⟨y, hy, he, c3, d3, rfl⟩
    have hyx := Br.fits_unique _ (by omega) y 0 hy hf
    rw [hyx] at he
    subst he
    clear hy hyx
    go_wp2_with fail
    have hr : ∀ W, Calls Try.prog 12 #[.int .u64 b, .agg #[.int .u8 0, .int .u32 b]] W fun e w' => e = .returned (.bool true) ∧ ∃ c : Array Value, w' = W.alloc (.cells c 34) := by
      intro W
      have := rounds_any b h0 h1 0 hx W
      rwa [hq] at this
    refine (hr _).mono ?_
    rintro e w' ⟨rfl, c2, rfl⟩
    clear hr
    go_wp2
    go_ret
    exact ⟨by simp, by repeat (first | exact Grown.refl _ | apply Grown.drew | apply Grown.alloc)⟩
end Go.Proofs.Qxb6613763a
