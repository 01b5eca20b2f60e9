import Derived.Test.Qxb6613846aRows
import Derived.Test.Qxb6613846aIn
import Derived.WalkKit
import Derived.WalkSpells
import Derived.WalkLawsBesides
import Derived.LoopTactic
import Derived.RegionTactic
import Derived.Laws.Pointers
import Derived.Outline
import Derived.RowKit3
namespace Go.Proofs.Qxb6613846a
open Go.RowKit

set_option maxRecDepth 100000 in
set_option maxHeartbeats 4000000 in
theorem bytes8_any (X : Inp) (w : World) (hX : Lies X w) :
    Calls Try.prog 8 #[.agg #[.int .i64 X.form, .int .i64 X.N, .int .i64 X.T, .int .i64 X.K, .int .i64 X.M, .int .i64 X.L, .slice X.ai X.li X.ci, .slice X.ac X.lc X.cc, .int .i64 X.R, .slice X.ao X.lo X.co, .slice X.aa X.la X.ca], .slice X.ad X.ld X.cd] w (BytesPost X w) := by
  obtain ⟨form, N, T, K, M, L, R, ai, li, ci, bi, oi, I, ac, lc, cc, bc, oc, CP, CR, CA, CL, CC, CB, CO, CZ, ao, lo, co, bo, oo, OP, OR, OV, aa, la, ca, ba, oa, AP, AR, AV, ad, ld, cd, bd, od, DP, DV, DR, DS⟩ := X
  obtain ⟨hXi, hXc, hXo, hXa, hXd⟩ := hX
  dsimp only at hXi hXc hXo hXa hXd ⊢
  go_enter Try.func8, Try.ntmps8
  by_cases g0 : 1048576 < li
  · go_wp2
    go_ret
    exact BytesPost.no _ _ _
  go_wp2
  go_loop [5, 6] (fun t i => ∃ (r : Int) (k : Nat), 0 ≤ r ∧ r ≤ 1048576 ∧ k ≤ li ∧ t = .int .i64 r ∧ i = .int .i64 k) (fun _ i => li - (intOf i).toNat)
  case atStart => exact ⟨_, 0, by omega, by omega, by omega, rfl, rfl⟩
  case round =>
    obtain ⟨z0, k, p0, p1, hk, rfl, rfl⟩ := hrel
    by_cases hlt : k < li
    · have hb := hXi.lt hlt
      have hcell := hXi.cell k hlt
      obtain rfl := hXi.addr (by omega)
      clear hXi hXc hXo hXa hXd
      go_wp2
      all_goals first
        | (go_ret
           exact BytesPost.no _ _ _)
        | (go_round
           case rel => exact ⟨_, k + 1, by omega, by omega, by omega, rfl, by go_num⟩
           case measure => simp [intOf]; omega)
    · obtain rfl : k = li := by omega
      by_cases g1 : 1048576 < lc
      · go_wp2
        go_ret
        exact BytesPost.no _ _ _
      by_cases s1 : 1048576 < z0 + (lc : Int)
      · go_wp2
        go_ret
        exact BytesPost.no _ _ _
      go_wp2
      go_loop [5, 7] (fun t i => ∃ (r : Int) (k : Nat), 0 ≤ r ∧ r ≤ 1048576 ∧ k ≤ lc ∧ (∀ q, q < k → CL q ≤ 1048576) ∧ t = .int .i64 r ∧ i = .int .i64 k) (fun _ i => lc - (intOf i).toNat)
      case atStart => exact ⟨_, 0, by omega, by omega, by omega, (fun q hq => by omega), rfl, rfl⟩
      case round =>
        obtain ⟨z1, k, p0, p1, hk, hq, rfl, rfl⟩ := hrel
        by_cases hlt : k < lc
        · have hb := hXc.lt hlt
          have hcell := hXc.c2 k hlt
          obtain rfl := hXc.addr (by omega)
          clear hXi hXc hXo hXa hXd
          go_wp2
          all_goals first
            | (go_ret
               exact BytesPost.no _ _ _)
            | (go_round
               case rel => exact ⟨_, k + 1, by omega, by omega, by omega, (all_succ hq (by omega)), rfl, by go_num⟩
               case measure => simp [intOf]; omega)
        · obtain rfl : k = lc := by omega
          by_cases g2 : 1048576 < lo
          · go_wp2
            go_ret
            exact BytesPost.no _ _ _
          by_cases s2 : 1048576 < z1 + (lo : Int)
          · go_wp2
            go_ret
            exact BytesPost.no _ _ _
          go_wp2
          go_loop [5, 8] (fun t i => ∃ (r : Int) (k : Nat), 0 ≤ r ∧ r ≤ 1048576 ∧ k ≤ lo ∧ t = .int .i64 r ∧ i = .int .i64 k) (fun _ i => lo - (intOf i).toNat)
          case atStart => exact ⟨_, 0, by omega, by omega, by omega, rfl, rfl⟩
          case round =>
            obtain ⟨z2, k, p0, p1, hk, rfl, rfl⟩ := hrel
            by_cases hlt : k < lo
            · have hb := hXo.lt hlt
              have hcell := hXo.c2 k hlt
              obtain rfl := hXo.addr (by omega)
              clear hXi hXc hXo hXa hXd
              go_wp2
              all_goals first
                | (go_ret
                   exact BytesPost.no _ _ _)
                | (go_round
                   case rel => exact ⟨_, k + 1, by omega, by omega, by omega, rfl, by go_num⟩
                   case measure => simp [intOf]; omega)
            · obtain rfl : k = lo := by omega
              by_cases g3 : 1048576 < la
              · go_wp2
                go_ret
                exact BytesPost.no _ _ _
              by_cases s3 : 1048576 < z2 + (la : Int)
              · go_wp2
                go_ret
                exact BytesPost.no _ _ _
              go_wp2
              go_loop [5, 9] (fun t i => ∃ (r : Int) (k : Nat), 0 ≤ r ∧ r ≤ 1048576 ∧ k ≤ la ∧ t = .int .i64 r ∧ i = .int .i64 k) (fun _ i => la - (intOf i).toNat)
              case atStart => exact ⟨_, 0, by omega, by omega, by omega, rfl, rfl⟩
              case round =>
                obtain ⟨z3, k, p0, p1, hk, rfl, rfl⟩ := hrel
                by_cases hlt : k < la
                · have hb := hXa.lt hlt
                  have hcell := hXa.c2 k hlt
                  obtain rfl := hXa.addr (by omega)
                  clear hXi hXc hXo hXa hXd
                  go_wp2
                  all_goals first
                    | (go_ret
                       exact BytesPost.no _ _ _)
                    | (go_round
                       case rel => exact ⟨_, k + 1, by omega, by omega, by omega, rfl, by go_num⟩
                       case measure => simp [intOf]; omega)
                · obtain rfl : k = la := by omega
                  by_cases g4 : 1048576 < ld
                  · go_wp2
                    go_ret
                    exact BytesPost.no _ _ _
                  by_cases s4 : 1048576 < z3 + (ld : Int)
                  · go_wp2
                    go_ret
                    exact BytesPost.no _ _ _
                  go_wp2
                  go_loop [5, 10] (fun t i => ∃ (r : Int) (k : Nat), 0 ≤ r ∧ r ≤ 1048576 ∧ k ≤ ld ∧ t = .int .i64 r ∧ i = .int .i64 k) (fun _ i => ld - (intOf i).toNat)
                  case atStart => exact ⟨_, 0, by omega, by omega, by omega, rfl, rfl⟩
                  case round =>
                    obtain ⟨z4, k, p0, p1, hk, rfl, rfl⟩ := hrel
                    by_cases hlt : k < ld
                    · have hb := hXd.lt hlt
                      have hcell := hXd.c1 k hlt
                      obtain rfl := hXd.addr (by omega)
                      clear hXi hXc hXo hXa hXd
                      go_wp2
                      all_goals first
                        | (go_ret
                           exact BytesPost.no _ _ _)
                        | (go_round
                           case rel => exact ⟨_, k + 1, by omega, by omega, by omega, rfl, by go_num⟩
                           case measure => simp [intOf]; omega)
                    · obtain rfl : k = ld := by omega
                      go_wp2
                      go_ret
                      exact BytesPost.yes _ _ _ ⟨by dsimp only; omega, by dsimp only; omega, hq, by dsimp only; omega, by dsimp only; omega, by dsimp only; omega⟩

end Go.Proofs.Qxb6613846a
