import Derived.Test.Qxb6609497aRows
import Derived.Test.Qxb6609497aPl
import Derived.WalkKit
import Derived.WalkSpells
import Derived.WalkLawsBesides
import Derived.LoopTactic
import Derived.RegionTactic
import Derived.Laws.Pointers
import Derived.ChangeAlike
import Derived.Outline
import Derived.RowKit3
namespace Go.Proofs.Qxb6609497a
open Go.RowKit

theorem ret_int {k : IntKind} {a b : Int} (h : a = b) : Ending.returned (.int k a) = .returned (.int k b) := by rw [h]

/-- Crash. -/
theorem crash_any (b : Nat) (c p : Int) (w : World) (hc : w.cell? ⟨b, 2, none⟩ = some (.int .u64 c)) (hf : w.frozen? ⟨b, 2, none⟩ = false) (c0 : 0 ≤ c) (c1 : c < 18446744073709551616) (p1 : 1 ≤ p) (p2 : p ≤ 9223372036854775807) :
    Calls Try.prog 8 #[.pointer (some ⟨b, 0, none⟩), .int .i64 p] w fun e w' => e = .returned (.tuple #[]) ∧ w' = (w.setCell ⟨b, 2, none⟩ (.int .u64 (Pl.mark c.toNat p : Nat))).drew := by
  go_enter Try.func8, Try.ntmps8
  go_region
  go_end0
  rw [Pl.or_mark c p c0 c1 p1]
  exact ⟨rfl, rfl⟩

set_option maxHeartbeats 400000 in
/-- b1Count. -/
theorem count_any (c : Int) (w : World) (c0 : 0 ≤ c) (c1 : c < 18446744073709551616) :
    Calls Try.prog 12 #[.int .u64 c] w fun e w' => e = .returned (.int .i64 (Pl.cnt c.toNat 64 : Nat)) ∧ w' = w := by
  go_enter Try.func12, Try.ntmps12
  go_wp2
  go_loop [3, 4] (fun n i => ∃ k : Nat, k ≤ 64 ∧ i = .int .i64 k ∧ n = .int .i64 (Pl.cnt c.toNat k : Nat)) (fun _ i => 64 - (intOf i).toNat)
  case atStart => exact ⟨0, by omega, rfl, rfl⟩
  case round =>
    obtain ⟨k, hk, rfl, rfl⟩ := hrel
    have hm := Pl.cnt_le c.toNat k
    by_cases hlt : k < 64
    · have hb := Pl.bit_one c k c0 c1
      have HS : Hid (Pl.cnt c.toNat (k + 1) = Pl.cnt c.toNat k + if c.toNat.testBit k then 1 else 0) := rfl
      generalize hg : c.toNat.testBit k = t at *
      clear hg
      generalize Pl.cnt c.toNat k = m at *
      cases t
      · go_wp2
        go_round
        case rel => exact ⟨k + 1, by omega, by go_num, by rw [HS.out]; simp⟩
        case measure => simp [intOf]; omega
      · go_wp2
        go_round
        case rel => exact ⟨k + 1, by omega, by go_num, by rw [HS.out]; simp⟩
        case measure => simp [intOf]; omega
    · obtain rfl : k = 64 := by omega
      go_wp2
      go_ret
      exact ⟨rfl, rfl⟩

/-- ZZNewWeakFSClass. -/
theorem new_any (n g c : Int) (w : World) :
    Calls Try.prog 7 #[.int .i64 n, .int .u64 g, .int .u64 c] w fun e w' => e = .returned (.pointer (some ⟨w.heap.size, 0, none⟩)) ∧ w' = w.alloc (.cells #[.int .i64 n, .int .u64 g, .int .u64 c] 53) := by
  go_enter Try.func7, Try.ntmps7
  go_wp2
  go_ret
  exact ⟨rfl, rfl⟩
/-- The three readers. -/
theorem n_any (b : Nat) (n : Int) (w : World) (hc : w.cell? ⟨b, 0, none⟩ = some (.int .i64 n)) :
    Calls Try.prog 9 #[.pointer (some ⟨b, 0, none⟩)] w fun e w' => e = .returned (.int .i64 n) ∧ w' = w := by
  go_enter Try.func9, Try.ntmps9
  go_wp2
  go_ret
  exact ⟨rfl, rfl⟩
theorem gone_any (b : Nat) (n : Int) (w : World) (hc : w.cell? ⟨b, 1, none⟩ = some (.int .u64 n)) :
    Calls Try.prog 10 #[.pointer (some ⟨b, 0, none⟩)] w fun e w' => e = .returned (.int .u64 n) ∧ w' = w := by
  go_enter Try.func10, Try.ntmps10
  go_wp2
  go_ret
  exact ⟨rfl, rfl⟩
theorem crashed_any (b : Nat) (n : Int) (w : World) (hc : w.cell? ⟨b, 2, none⟩ = some (.int .u64 n)) :
    Calls Try.prog 11 #[.pointer (some ⟨b, 0, none⟩)] w fun e w' => e = .returned (.int .u64 n) ∧ w' = w := by
  go_enter Try.func11, Try.ntmps11
  go_wp2
  go_ret
  exact ⟨rfl, rfl⟩

set_option maxHeartbeats 400000 in
/-- FnWeakFSClassCrashMarksExactlyP. -/
theorem marks_any (n g c p : Int) (w : World) (c0 : 0 ≤ c) (c1 : c < 18446744073709551616) (p2 : p ≤ 9223372036854775807) :
    Calls Try.prog 3 #[.int .i64 n, .int .u64 g, .int .u64 c, .int .i64 p] w fun e w' => e = .returned (.bool true) ∧ Grown w w' := by
  by_cases p1 : p < 1
  · go_enter Try.func3, Try.ntmps3
    go_wp2
    go_ret
    exact ⟨rfl, Grown.refl _⟩
  have p1' : 1 ≤ p := by omega
  clear p1
  go_enter Try.func3, Try.ntmps3
  go_wp2_with fail
  refine (new_any n g c _).mono ?_
  rintro e w1 ⟨rfl, rfl⟩
  go_wp2_with fail
  refine (crash_any _ c p _ (by simp [go_sem]) (by simp [go_sem]) c0 c1 p1' p2).mono ?_
  rintro e w1 ⟨rfl, rfl⟩
  go_wp2_with fail
  refine (n_any _ n _ (by simp [go_sem])).mono ?_
  rintro e w1 ⟨rfl, rfl⟩
  go_wp2_with fail
  refine (gone_any _ g _ (by simp [go_sem])).mono ?_
  rintro e w1 ⟨rfl, rfl⟩
  go_wp2_with fail
  refine (crashed_any _ (Pl.mark c.toNat p : Nat) _ (by simp [go_sem])).mono ?_
  rintro e w1 ⟨rfl, rfl⟩
  have HM : Hid (∀ k : Nat, k < 64 → (bits .and .u64 (((Pl.mark c.toNat p : Nat) : Int) / 2 ^ k) 1 == 1) = ((bits .and .u64 (c / 2 ^ k) 1 == 1) || ((k : Int) + 1 == p))) := by
    intro k hk
    have h1 := Pl.mark_lt c.toNat (by omega) p p1'
    rw [Pl.bit_one c k c0 c1, Pl.bit_one _ k (by omega) (by omega), Int.toNat_natCast, Pl.mark_bit c.toNat p k p1' hk]
  have m0 : 0 ≤ ((Pl.mark c.toNat p : Nat) : Int) := by omega
  have m1 : ((Pl.mark c.toNat p : Nat) : Int) < 18446744073709551616 := by
    have := Pl.mark_lt c.toNat (by omega) p p1'
    omega
  generalize ((Pl.mark c.toNat p : Nat) : Int) = M at *
  go_wp2
  go_loop [11, 12, 13] (fun q _ _ => ∃ k : Nat, k ≤ 64 ∧ q = .int .i64 (k + 1)) (fun q _ _ => 65 - (intOf q).toNat)
  case atStart => exact ⟨0, by omega, rfl⟩
  case round =>
    obtain ⟨k, hk, rfl⟩ := hrel
    by_cases hlt : k < 64
    · have hm := HM.out k hlt
      cases hq : ((k : Int) + 1 == p) <;> cases hb : (bits .and .u64 (c / 2 ^ k) 1 == 1) <;> rw [hq, hb] at hm <;> simp only [Bool.or_true, Bool.or_false] at hm
      all_goals
        go_wp2
        go_round
        case rel => exact ⟨k + 1, by omega, by go_num⟩
        case measure => simp [intOf]; omega
    · obtain rfl : k = 64 := by omega
      go_wp2
      go_ret
      exact ⟨rfl, by repeat (first | exact Grown.refl _ | apply Grown.drew | apply Grown.alloc | (refine Grown.setCell ?_ (by simp) _))⟩

set_option maxHeartbeats 1000000 in
/-- FnWeakFSClassCrashOrderFreeIdempotentAddsOne. -/
theorem order_any (n g c p q : Int) (w : World) (c0 : 0 ≤ c) (c1 : c < 18446744073709551616) (p2 : p ≤ 9223372036854775807) (q2 : q ≤ 9223372036854775807) :
    Calls Try.prog 4 #[.int .i64 n, .int .u64 g, .int .u64 c, .int .i64 p, .int .i64 q] w fun e w' => e = .returned (.bool true) ∧ Grown w w' := by
  by_cases p1 : p < 1
  · go_enter Try.func4, Try.ntmps4
    go_wp2
    go_ret
    exact ⟨rfl, Grown.refl _⟩
  by_cases q1 : q < 1
  · go_enter Try.func4, Try.ntmps4
    go_wp2
    go_ret
    exact ⟨rfl, Grown.refl _⟩
  have p1' : 1 ≤ p := by omega
  have q1' : 1 ≤ q := by omega
  have HC : Hid (Pl.mark (Pl.mark c.toNat p) q = Pl.mark (Pl.mark (Pl.mark c.toNat q) p) p) := Pl.mark_comm _ _ _
  go_enter Try.func4, Try.ntmps4
  go_wp2_with fail
  refine (new_any n g c _).mono ?_
  rintro e w1 ⟨rfl, rfl⟩
  go_wp2_with fail
  refine (crash_any _ c p _ (by simp [go_sem]) (by simp [go_sem]) c0 c1 p1' p2).mono ?_
  rintro e w1 ⟨rfl, rfl⟩
  have a1 := Pl.mark_lt c.toNat (by omega) p p1'
  have b1 := Pl.mark_lt c.toNat (by omega) q q1'
  have b2 := Pl.mark_lt _ b1 p p1'
  go_wp2_with fail
  refine (crash_any _ (Pl.mark c.toNat p : Nat) q _ (by simp [go_sem]) (by simp [go_sem]) (by omega) (by omega) q1' q2).mono ?_
  rintro e w1 ⟨rfl, rfl⟩
  rw [Int.toNat_natCast]
  go_wp2_with fail
  refine (new_any n g c _).mono ?_
  rintro e w1 ⟨rfl, rfl⟩
  go_wp2_with fail
  refine (crash_any _ c q _ (by simp [go_sem]) (by simp [go_sem]) c0 c1 q1' q2).mono ?_
  rintro e w1 ⟨rfl, rfl⟩
  go_wp2_with fail
  refine (crash_any _ (Pl.mark c.toNat q : Nat) p _ (by simp [go_sem]) (by simp [go_sem]) (by omega) (by omega) p1' p2).mono ?_
  rintro e w1 ⟨rfl, rfl⟩
  rw [Int.toNat_natCast]
  go_wp2_with fail
  refine (crash_any _ (Pl.mark (Pl.mark c.toNat q) p : Nat) p _ (by simp [go_sem]) (by simp [go_sem]) (by omega) (by omega) p1' p2).mono ?_
  rintro e w1 ⟨rfl, rfl⟩
  rw [Int.toNat_natCast]
  go_wp2_with fail
  refine (new_any n g c _).mono ?_
  rintro e w1 ⟨rfl, rfl⟩
  go_wp2_with fail
  refine (crash_any _ c p _ (by simp [go_sem]) (by simp [go_sem]) c0 c1 p1' p2).mono ?_
  rintro e w1 ⟨rfl, rfl⟩
  go_wp2_with fail
  refine (count_any c _ c0 c1).mono ?_
  rintro e w1 ⟨rfl, rfl⟩
  have HK : Hid (Pl.cnt (Pl.mark c.toNat p) 64 = Pl.cnt c.toNat 64 + if p ≤ 64 ∧ c.toNat.testBit (p - 1).toNat = false then 1 else 0) := Pl.cnt_mark _ p p1'
  have hle := Pl.cnt_le c.toNat 64
  have hz : (bits .and .u64 (c / 2 ^ (p.toNat - 1)) 1 == 0) = !c.toNat.testBit (p - 1).toNat := by
    rw [Pl.bit_zero c _ c0 c1]; congr 2; omega
  have d1 := Pl.mark_lt _ a1 q q1'
  have tl : ∀ W : World, Calls Try.prog 12 #[.int .u64 (Pl.mark c.toNat p : Nat)] W fun e w' => e = .returned (.int .i64 (Pl.cnt (Pl.mark c.toNat p) 64 : Nat)) ∧ w' = W := by
    intro W
    have := count_any (Pl.mark c.toNat p : Nat) W (by omega) (by omega)
    rwa [Int.toNat_natCast] at this
  have HT : Hid (∀ W : World, Calls Try.prog 12 #[.int .u64 (Pl.mark c.toNat p : Nat)] W fun e w' => e = .returned (.int .i64 (Pl.cnt (Pl.mark c.toNat p) 64 : Nat)) ∧ w' = W) := tl
  clear tl
  generalize c.toNat.testBit (p - 1).toNat = t at *
  by_cases ph : p ≤ 64
  · cases t
    · go_wp2_with fail
      refine (crashed_any _ (Pl.mark (Pl.mark c.toNat p) q : Nat) _ (by simp [go_sem])).mono ?_
      rintro e w1 ⟨rfl, rfl⟩
      go_wp2_with fail
      refine (crashed_any _ (Pl.mark (Pl.mark c.toNat p) q : Nat) _ (by rw [HC.out]; simp [go_sem])).mono ?_
      rintro e w1 ⟨rfl, rfl⟩
      go_wp2_with fail
      refine (crashed_any _ (Pl.mark c.toNat p : Nat) _ (by simp [go_sem])).mono ?_
      rintro e w1 ⟨rfl, rfl⟩
      go_wp2_with fail
      refine (HT.out _).mono ?_
      rintro e w1 ⟨rfl, rfl⟩
      rw [HK.out]; simp only [ph, true_and, if_true, Int.natCast_add]
      go_wp2_with fail
      refine (n_any _ n _ (by simp [go_sem])).mono ?_
      rintro e w1 ⟨rfl, rfl⟩
      go_wp2_with fail
      refine (gone_any _ g _ (by simp [go_sem])).mono ?_
      rintro e w1 ⟨rfl, rfl⟩
      go_wp2
      go_ret
      exact ⟨by simp, by repeat (first | exact Grown.refl _ | apply Grown.drew | apply Grown.alloc | (refine Grown.setCell ?_ (by simp) _))⟩
    · go_wp2_with fail
      refine (crashed_any _ (Pl.mark (Pl.mark c.toNat p) q : Nat) _ (by simp [go_sem])).mono ?_
      rintro e w1 ⟨rfl, rfl⟩
      go_wp2_with fail
      refine (crashed_any _ (Pl.mark (Pl.mark c.toNat p) q : Nat) _ (by rw [HC.out]; simp [go_sem])).mono ?_
      rintro e w1 ⟨rfl, rfl⟩
      go_wp2_with fail
      refine (crashed_any _ (Pl.mark c.toNat p : Nat) _ (by simp [go_sem])).mono ?_
      rintro e w1 ⟨rfl, rfl⟩
      go_wp2_with fail
      refine (HT.out _).mono ?_
      rintro e w1 ⟨rfl, rfl⟩
      rw [HK.out]; simp only [ph, true_and, Bool.true_eq_false, if_false, Nat.add_zero]
      go_wp2_with fail
      refine (n_any _ n _ (by simp [go_sem])).mono ?_
      rintro e w1 ⟨rfl, rfl⟩
      go_wp2_with fail
      refine (gone_any _ g _ (by simp [go_sem])).mono ?_
      rintro e w1 ⟨rfl, rfl⟩
      go_wp2
      go_ret
      exact ⟨by simp, by repeat (first | exact Grown.refl _ | apply Grown.drew | apply Grown.alloc | (refine Grown.setCell ?_ (by simp) _))⟩
  · go_wp2_with fail
    refine (crashed_any _ (Pl.mark (Pl.mark c.toNat p) q : Nat) _ (by simp [go_sem])).mono ?_
    rintro e w1 ⟨rfl, rfl⟩
    go_wp2_with fail
    refine (crashed_any _ (Pl.mark (Pl.mark c.toNat p) q : Nat) _ (by rw [HC.out]; simp [go_sem])).mono ?_
    rintro e w1 ⟨rfl, rfl⟩
    go_wp2_with fail
    refine (crashed_any _ (Pl.mark c.toNat p : Nat) _ (by simp [go_sem])).mono ?_
    rintro e w1 ⟨rfl, rfl⟩
    go_wp2_with fail
    refine (HT.out _).mono ?_
    rintro e w1 ⟨rfl, rfl⟩
    rw [HK.out, if_neg (by omega), Nat.add_zero]
    go_wp2_with fail
    refine (n_any _ n _ (by simp [go_sem])).mono ?_
    rintro e w1 ⟨rfl, rfl⟩
    go_wp2_with fail
    refine (gone_any _ g _ (by simp [go_sem])).mono ?_
    rintro e w1 ⟨rfl, rfl⟩
    go_wp2
    go_ret
    exact ⟨by simp, by repeat (first | exact Grown.refl _ | apply Grown.drew | apply Grown.alloc | (refine Grown.setCell ?_ (by simp) _))⟩
end Go.Proofs.Qxb6609497a
