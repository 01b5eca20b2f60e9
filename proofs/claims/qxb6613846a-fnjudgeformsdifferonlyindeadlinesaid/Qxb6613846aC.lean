import Derived.Test.Qxb6613846aRows
import Derived.Test.Qxb6613846aIn
import Derived.WalkKit
import Derived.WalkSpells
import Derived.WalkLawsBesides
import Derived.LoopTactic
import Derived.RegionTactic
import Derived.Laws.Pointers
import Derived.Outline
import Derived.RowKit3
namespace Go.Proofs.Qxb6613846a
open Go.RowKit

theorem add_any (t n d : Int) (w : World) (t0 : 0 ≤ t) (t1 : t ≤ 1048577) (n0 : 0 ≤ n) (d0 : 0 ≤ d) (d1 : d ≤ 64) :
    Calls Try.prog 25 #[.int .i64 t, .int .i64 n, .int .i64 d] w fun e w' => (∃ r : Int, 0 ≤ r ∧ r ≤ 1048577 ∧ e = .returned (.int .i64 r)) ∧ w = w' := by
  by_cases h1 : 1048576 < t
  · go_enter Try.func25, Try.ntmps25
    go_wp2
    go_ret
    exact ⟨⟨_, by decide, by decide, rfl⟩, rfl⟩
  by_cases h2 : 1048576 < n
  · go_enter Try.func25, Try.ntmps25
    go_wp2
    go_ret
    exact ⟨⟨_, by decide, by decide, rfl⟩, rfl⟩
  have hp0 : 0 ≤ n * d := Int.mul_nonneg n0 d0
  have hp1 : n * d ≤ 67108864 := by
    have a := Int.mul_le_mul_of_nonneg_right (show n ≤ 1048576 by omega) d0
    have b : 1048576 * d ≤ 1048576 * 64 := by omega
    omega
  by_cases h3 : 1048576 < t + n * d
  · go_enter Try.func25, Try.ntmps25
    go_wp2
    go_ret
    exact ⟨⟨_, by decide, by decide, rfl⟩, rfl⟩
  · go_enter Try.func25, Try.ntmps25
    go_wp2
    go_ret
    exact ⟨⟨_, by omega, by omega, rfl⟩, rfl⟩

set_option maxHeartbeats 400000 in
theorem strs_any (t : Int) (a : Option Addr) (n c b o : Nat) (I : Nat → ByteArray) (w : World) (t0 : 0 ≤ t) (t1 : t ≤ 1048577) (hn : n ≤ 1048576) (hS : Strs w a n b o I) :
    Calls Try.prog 34 #[.int .i64 t, .slice a n c] w fun e w' => (∃ r : Int, 0 ≤ r ∧ r ≤ 1048577 ∧ e = .returned (.int .i64 r)) ∧ w = w' := by
  go_enter Try.func34, Try.ntmps34
  go_wp2_with (go_at_call 25; refine (add_any _ _ _ _ t0 t1 (by omega) (by omega) (by omega)).mono ?_; rintro e w' ⟨⟨r, r0, r1, rfl⟩, rfl⟩)
  go_loop [0, 5] (fun t i => ∃ (r : Int) (k : Nat), 0 ≤ r ∧ r ≤ 1048577 ∧ k ≤ n ∧ t = .int .i64 r ∧ i = .int .i64 k) (fun _ i => n - (intOf i).toNat)
  case atStart => exact ⟨r, 0, r0, r1, by omega, rfl, rfl⟩
  case round =>
    obtain ⟨r, k, r0, r1, hk, rfl, rfl⟩ := hrel
    by_cases hlt : k < n
    · by_cases hr : r ≤ 1048576
      · have hcell := hS.cell k hlt
        obtain rfl := hS.addr (by omega)
        clear hS
        go_wp2_with (go_at_call 25; refine (add_any _ _ _ _ r0 r1 (by omega) (by omega) (by omega)).mono ?_; rintro e w' ⟨⟨r', r0', r1', rfl⟩, rfl⟩)
        go_round
        case rel => exact ⟨r', k + 1, r0', r1', by omega, rfl, by go_num⟩
        case measure => simp [intOf]; omega
      · go_wp2
        go_ret
        exact ⟨⟨_, r0, r1, rfl⟩, rfl⟩
    · go_wp2
      go_ret
      exact ⟨⟨_, r0, r1, rfl⟩, rfl⟩

set_option maxHeartbeats 400000 in
theorem choices_any (t : Int) (a : Option Addr) (n c b o : Nat) (P R : Nat → Int) (I : Nat → ByteArray) (w : World) (t0 : 0 ≤ t) (t1 : t ≤ 1048577) (hn : n ≤ 1048576) (hS : Chs w a n b o P R I) :
    Calls Try.prog 35 #[.int .i64 t, .slice a n c] w fun e w' => (∃ r : Int, 0 ≤ r ∧ r ≤ 1048577 ∧ e = .returned (.int .i64 r)) ∧ w = w' := by
  go_enter Try.func35, Try.ntmps35
  go_wp2_with (go_at_call 25; refine (add_any _ _ _ _ t0 t1 (by omega) (by omega) (by omega)).mono ?_; rintro e w' ⟨⟨r, r0, r1, rfl⟩, rfl⟩)
  go_loop [0, 5] (fun t i => ∃ (r : Int) (k : Nat), 0 ≤ r ∧ r ≤ 1048577 ∧ k ≤ n ∧ t = .int .i64 r ∧ i = .int .i64 k) (fun _ i => n - (intOf i).toNat)
  case atStart => exact ⟨r, 0, r0, r1, by omega, rfl, rfl⟩
  case round =>
    obtain ⟨r, k, r0, r1, hk, rfl, rfl⟩ := hrel
    by_cases hlt : k < n
    · by_cases hr : r ≤ 1048576
      · have hcell := hS.c2 k hlt
        obtain rfl := hS.addr (by omega)
        clear hS
        go_wp2_with (go_at_call 25; refine (add_any _ _ _ _ r0 r1 (by omega) (by omega) (by omega)).mono ?_; rintro e w' ⟨⟨r', r0', r1', rfl⟩, rfl⟩)
        go_round
        case rel => exact ⟨r', k + 1, r0', r1', by omega, rfl, by go_num⟩
        case measure => simp [intOf]; omega
      · go_wp2
        go_ret
        exact ⟨⟨_, r0, r1, rfl⟩, rfl⟩
    · go_wp2
      go_ret
      exact ⟨⟨_, r0, r1, rfl⟩, rfl⟩

/-- zzJudgeBytes gives some number. -/
def NumPost (w : World) (e : Ending) (w' : World) : Prop := (∃ r : Int, e = .returned (.int .i64 r)) ∧ ∃ c : Array Value, w' = w.alloc (.cells c 26)

set_option maxRecDepth 100000 in
set_option maxHeartbeats 4000000 in
theorem judgeBytes_any (X : Inp) (w : World) (hX : Lies X w) (hs : Short X) :
    Calls Try.prog 9 #[.agg #[.int .i64 X.form, .int .i64 X.N, .int .i64 X.T, .int .i64 X.K, .int .i64 X.M, .int .i64 X.L, .slice X.ai X.li X.ci, .slice X.ac X.lc X.cc, .int .i64 X.R, .slice X.ao X.lo X.co, .slice X.aa X.la X.ca], .slice X.ad X.ld X.cd] w (NumPost w) := by
  obtain ⟨form, N, T, K, M, L, R, ai, li, ci, bi, oi, I, ac, lc, cc, bc, oc, CP, CR, CA, CL, CC, CB, CO, CZ, ao, lo, co, bo, oo, OP, OR, OV, aa, la, ca, ba, oa, AP, AR, AV, ad, ld, cd, bd, od, DP, DV, DR, DS⟩ := X
  obtain ⟨hXi, hXc, hXo, hXa, hXd⟩ := hX
  obtain ⟨si, sc, scl, so, sa, sd⟩ := hs
  dsimp only at hXi hXc hXo hXa hXd si sc scl so sa sd ⊢
  go_enter Try.func9, Try.ntmps9
  go_wp2_with fail
  refine (strs_any _ _ _ _ _ _ _ _ (by omega) (by omega) si (by exact hXi.mono (keeps_alloc _ _))).mono ?_
  rintro e w' ⟨⟨t1, t10, t11, rfl⟩, rfl⟩
  go_wp2_with fail
  refine (add_any _ _ _ _ t10 t11 (by omega) (by omega) (by omega)).mono ?_
  rintro e w' ⟨⟨t2, t20, t21, rfl⟩, rfl⟩
  go_wp2
  go_loop [5, 6] (fun t i => ∃ (r : Int) (k : Nat), 0 ≤ r ∧ r ≤ 1048577 ∧ k ≤ lc ∧ t = .int .i64 r ∧ i = .int .i64 k) (fun _ i => lc - (intOf i).toNat)
  case atStart => exact ⟨t2, 0, t20, t21, by omega, rfl, rfl⟩
  case round =>
    obtain ⟨r, k, r0, r1, hk, rfl, rfl⟩ := hrel
    by_cases hlt : k < lc ∧ r ≤ 1048576
    · obtain ⟨hlt, hr⟩ := hlt
      have hcell := hXc.c2 k hlt
      have hb := hXc.lt hlt
      have hcl := scl k hlt
      obtain rfl := hXc.addr (by omega)
      clear hXi hXc hXo hXa hXd scl
      go_wp2_with (go_at_call 25; refine (add_any _ _ _ _ r0 r1 (by omega) (by omega) (by omega)).mono ?_; rintro e w' ⟨⟨r', r0', r1', rfl⟩, rfl⟩)
      go_round
      case rel => exact ⟨r', k + 1, r0', r1', by omega, rfl, by go_num⟩
      case measure => simp [intOf]; omega
    · have hex : ¬ k < lc ∨ (k < lc ∧ ¬ r ≤ 1048576) := by omega
      clear hlt
      rcases hex with h | ⟨h, h'⟩
      all_goals
        go_wp2_with fail
        refine (choices_any _ _ _ _ _ _ _ _ _ _ r0 r1 so (by exact hXo.mono (keeps_alloc _ _))).mono ?_
        rintro e w' ⟨⟨t3, t30, t31, rfl⟩, rfl⟩
        go_wp2_with fail
        refine (choices_any _ _ _ _ _ _ _ _ _ _ t30 t31 sa (by exact hXa.mono (keeps_alloc _ _))).mono ?_
        rintro e w' ⟨⟨t4, t40, t41, rfl⟩, rfl⟩
        go_wp2_with fail
        refine (add_any _ _ _ _ t40 t41 (by omega) (by omega) (by omega)).mono ?_
        rintro e w' ⟨⟨t5, t50, t51, rfl⟩, rfl⟩
        go_wp2
        go_loop [5, 7] (fun t i => ∃ (r : Int) (k : Nat), 0 ≤ r ∧ r ≤ 1048577 ∧ k ≤ ld ∧ t = .int .i64 r ∧ i = .int .i64 k) (fun _ i => ld - (intOf i).toNat)
        case atStart => exact ⟨t5, 0, t50, t51, by omega, rfl, rfl⟩
        case round =>
          obtain ⟨r', j, r0', r1', hj, rfl, rfl⟩ := hrel
          by_cases hlt : j < ld
          · by_cases hr : r' ≤ 1048576
            · have hcell := hXd.c1 j hlt
              have hb := hXd.lt hlt
              obtain rfl := hXd.addr (by omega)
              clear hXi hXc hXo hXa hXd scl
              go_wp2_with (go_at_call 25; refine (add_any _ _ _ _ r0' r1' (by omega) (by omega) (by omega)).mono ?_; rintro e w' ⟨⟨r2, r20, r21, rfl⟩, rfl⟩)
              go_round
              case rel => exact ⟨r2, j + 1, r20, r21, by omega, rfl, by go_num⟩
              case measure => simp [intOf]; omega
            · go_wp2
              go_ret
              exact ⟨⟨_, rfl⟩, _, rfl⟩
          · go_wp2
            go_ret
            exact ⟨⟨_, rfl⟩, _, rfl⟩
end Go.Proofs.Qxb6613846a
