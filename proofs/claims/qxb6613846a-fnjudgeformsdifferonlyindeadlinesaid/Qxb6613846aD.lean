import Derived.Test.Qxb6613846aRows
import Derived.Test.Qxb6613846aIn
import Derived.WalkKit
import Derived.WalkSpells
import Derived.WalkLawsBesides
import Derived.LoopTactic
import Derived.RegionTactic
import Derived.Laws.Pointers
import Derived.Outline
import Derived.RowKit3
import Derived.BigQuiet
import Derived.Deep.QuietTactic
namespace Go.Proofs.Qxb6613846a
open Go.RowKit

/-- The domain of the laws. -/
structure Dom (X : Inp) : Prop where
  n1 : 1 ≤ X.N
  n2 : X.N ≤ 65536
  k1 : 1 ≤ X.K
  k2 : X.K ≤ 1073741824
  l1 : 1 ≤ X.L
  l2 : X.L ≤ 1073741824
  m1 : 1 ≤ X.M
  m2 : X.M ≤ 16384
  cp : ∀ j, j < X.lc → 1 ≤ X.CP j ∧ X.CP j ≤ X.N
  dp : ∀ j, j < X.ld → 1 ≤ X.DP j ∧ X.DP j ≤ X.N
def DomPost (X : Inp) (w : World) (e : Ending) (w' : World) : Prop := (∃ bb : Bool, e = .returned (.bool bb) ∧ (bb = true → Dom X)) ∧ ∃ (c : Array Value) (q : Nat), w' = (w.alloc (.cells c 26)).drewN q
theorem DomPost.no (X : Inp) (w : World) (c : Array Value) (q : Nat) : DomPost X w (.returned (.bool false)) ((w.alloc (.cells c 26)).drewN q) := ⟨⟨false, rfl, fun h => by cases h⟩, c, q, rfl⟩
theorem DomPost.yes (X : Inp) (w : World) (c : Array Value) (q : Nat) (h : Dom X) : DomPost X w (.returned (.bool true)) ((w.alloc (.cells c 26)).drewN q) := ⟨⟨true, rfl, fun _ => h⟩, c, q, rfl⟩
theorem range_succ {f : Nat → Int} {k : Nat} {N : Int} (h : ∀ q, q < k → 1 ≤ f q ∧ f q ≤ N) (h1 : 1 ≤ f k) (h2 : f k ≤ N) : ∀ q, q < k + 1 → 1 ≤ f q ∧ f q ≤ N := fun q hq => by
  rcases Nat.lt_or_ge q k with h3 | h3
  · exact h q h3
  · obtain rfl : q = k := by omega
    exact ⟨h1, h2⟩


set_option maxRecDepth 100000 in
set_option maxHeartbeats 4000000 in
theorem domain_any (X : Inp) (w : World) (hX : Lies X w) (hs : Short X) :
    Calls Try.prog 10 #[.agg #[.int .i64 X.form, .int .i64 X.N, .int .i64 X.T, .int .i64 X.K, .int .i64 X.M, .int .i64 X.L, .slice X.ai X.li X.ci, .slice X.ac X.lc X.cc, .int .i64 X.R, .slice X.ao X.lo X.co, .slice X.aa X.la X.ca], .slice X.ad X.ld X.cd] w (DomPost X w) := by
  obtain ⟨form, N, T, K, M, L, R, ai, li, ci, bi, oi, I, ac, lc, cc, bc, oc, CP, CR, CA, CL, CC, CB, CO, CZ, ao, lo, co, bo, oo, OP, OR, OV, aa, la, ca, ba, oa, AP, AR, AV, ad, ld, cd, bd, od, DP, DV, DR, DS⟩ := X
  obtain ⟨hXi, hXc, hXo, hXa, hXd⟩ := hX
  obtain ⟨si, sc, scl, so, sa, sd⟩ := hs
  dsimp only at hXi hXc hXo hXa hXd si sc scl so sa sd ⊢
  clear hXi hXo hXa
  go_enter Try.func10, Try.ntmps10
  by_cases n1 : N < 1
  · go_wp2
    go_ret
    exact DomPost.no _ _ _ 0
  by_cases n2 : 65536 < N
  · go_wp2
    go_ret
    exact DomPost.no _ _ _ 0
  by_cases k1 : K < 1
  · go_wp2
    go_ret
    exact DomPost.no _ _ _ 0
  by_cases k2 : 1073741824 < K
  · go_wp2
    go_ret
    exact DomPost.no _ _ _ 0
  by_cases l1 : L < 1
  · go_wp2
    go_ret
    exact DomPost.no _ _ _ 0
  by_cases l2 : 1073741824 < L
  · go_wp2
    go_ret
    exact DomPost.no _ _ _ 0
  by_cases m1 : M < 1
  · go_wp2
    go_ret
    exact DomPost.no _ _ _ 0
  by_cases m2 : 16384 < M
  · go_wp2
    go_ret
    exact DomPost.no _ _ _ 0
  go_wp2
  go_loopw [5] (fun i wr => ∃ (q k : Nat), wr = (w.alloc (.cells #[.int .i64 form, .int .i64 N, .int .i64 T, .int .i64 K, .int .i64 M, .int .i64 L, .slice ai li ci, .slice ac lc cc, .int .i64 R, .slice ao lo co, .slice aa la ca] 26)).drewN q ∧ k ≤ lc ∧ (∀ j, j < k → 1 ≤ CP j ∧ CP j ≤ N) ∧ i = .int .i64 k) (fun i _ => lc - (intOf i).toNat)
  case atStart => exact ⟨0, 0, rfl, by omega, (fun j hj => by omega), rfl⟩
  case round =>
    obtain ⟨q, k, rfl, hk, hcp, rfl⟩ := hrel
    by_cases hlt : k < lc
    · have hcell := hXc.c0 k hlt
      have hb := hXc.lt hlt
      obtain rfl := hXc.addr (by omega)
      clear hXc hXd
      by_cases h1 : CP k < 1
      · go_wp2
        go_quiet (fail)
        rw [World.drewN_drewN]
        go_wp2
        go_ret
        exact DomPost.no _ _ _ _
      have h1' : decide (CP k < 1) = false := by simpa using h1
      by_cases h2 : N < CP k
      · go_wp2
        go_quiet (fail)
        rw [World.drewN_drewN]
        go_wp2
        go_ret
        exact DomPost.no _ _ _ _
      · have h2' : decide (N < CP k) = false := by simpa using h2
        go_wp2
        go_quiet (fail)
        rw [World.drewN_drewN]
        go_wp2
        go_roundw
        case rel => exact ⟨_, k + 1, rfl, by omega, range_succ hcp (by omega) (by omega), by go_num⟩
        case measure => simp [intOf]; omega
    · obtain ⟨k', rfl⟩ : ∃ k', k' = k := ⟨_, rfl⟩
      obtain rfl : k' = lc := by omega
      go_wp2
      go_loopw [6] (fun i wr => ∃ (q k : Nat), wr = (w.alloc (.cells #[.int .i64 form, .int .i64 N, .int .i64 T, .int .i64 K, .int .i64 M, .int .i64 L, .slice ai li ci, .slice ac k' cc, .int .i64 R, .slice ao lo co, .slice aa la ca] 26)).drewN q ∧ k ≤ ld ∧ (∀ j, j < k → 1 ≤ DP j ∧ DP j ≤ N) ∧ i = .int .i64 k) (fun i _ => ld - (intOf i).toNat)
      case atStart => exact ⟨_, 0, rfl, by omega, (fun j hj => by omega), rfl⟩
      case round =>
        obtain ⟨q', j, rfl, hj, hdp, rfl⟩ := hrel
        by_cases hlt : j < ld
        · have hcell := hXd.c0 j hlt
          have hb := hXd.lt hlt
          obtain rfl := hXd.addr (by omega)
          clear hXc hXd
          by_cases h1 : DP j < 1
          · go_wp2
            go_quiet (fail)
            rw [World.drewN_drewN]
            go_wp2
            go_ret
            exact DomPost.no _ _ _ _
          have h1' : decide (DP j < 1) = false := by simpa using h1
          by_cases h2 : N < DP j
          · go_wp2
            go_quiet (fail)
            rw [World.drewN_drewN]
            go_wp2
            go_ret
            exact DomPost.no _ _ _ _
          · have h2' : decide (N < DP j) = false := by simpa using h2
            go_wp2
            go_quiet (fail)
            rw [World.drewN_drewN]
            go_wp2
            go_roundw
            case rel => exact ⟨_, j + 1, rfl, by omega, range_succ hdp (by omega) (by omega), by go_num⟩
            case measure => simp [intOf]; omega
        · obtain rfl : j = ld := by omega
          go_wp2
          go_ret
          exact DomPost.yes _ _ _ _ ⟨by dsimp only; omega, by dsimp only; omega, by dsimp only; omega, by dsimp only; omega, by dsimp only; omega, by dsimp only; omega, by dsimp only; omega, by dsimp only; omega, hcp, hdp⟩
end Go.Proofs.Qxb6613846a
