import Derived.Test.Qxb6613846aRows
import Derived.Test.Qxb6613846aIn
import Derived.WalkKit
import Derived.WalkSpells
import Derived.WalkLawsBesides
import Derived.LoopTactic
import Derived.RegionTactic
import Derived.Laws.Pointers
import Derived.Outline
import Derived.RowKit3
import Derived.Test.Qxb6613846aPl
import Derived.Test.Qxb6613846aD
namespace Go.Proofs.Qxb6613846a
open Go.RowKit

def TermPost (X : Inp) (plain : Bool) (w : World) (e : Ending) (w' : World) : Prop :=
  e = .returned (.bool (Pl.term (Pl.okOf plain X.R) X.CP X.lc X.DP X.DR X.ld X.N.toNat)) ∧ ∃ c : Array Value, w' = w.alloc (.cells c 26)
theorem TermPost.mk (X : Inp) (plain : Bool) (w : World) (c : Array Value) (v : Bool) (h : Pl.term (Pl.okOf plain X.R) X.CP X.lc X.DP X.DR X.ld X.N.toNat = v) : TermPost X plain w (.returned (.bool v)) (w.alloc (.cells c 26)) := by
  subst h; exact ⟨rfl, c, rfl⟩

set_option maxRecDepth 100000 in
set_option maxHeartbeats 4000000 in
/-- zzTerminated. -/
theorem terminated_any (X : Inp) (plain : Bool) (w : World) (hX : Lies X w) (hs : Short X) (hd : Dom X) :
    Calls Try.prog 17 #[.agg #[.int .i64 X.form, .int .i64 X.N, .int .i64 X.T, .int .i64 X.K, .int .i64 X.M, .int .i64 X.L, .slice X.ai X.li X.ci, .slice X.ac X.lc X.cc, .int .i64 X.R, .slice X.ao X.lo X.co, .slice X.aa X.la X.ca], .slice X.ad X.ld X.cd, .bool plain] w (TermPost X plain w) := by
  obtain ⟨form, N, T, K, M, L, R, ai, li, ci, bi, oi, I, ac, lc, cc, bc, oc, CP, CR, CA, CL, CC, CB, CO, CZ, ao, lo, co, bo, oo, OP, OR, OV, aa, la, ca, ba, oa, AP, AR, AV, ad, ld, cd, bd, od, DP, DV, DR, DS⟩ := X
  obtain ⟨hXi, hXc, hXo, hXa, hXd⟩ := hX
  obtain ⟨si, sc, scl, so, sa, sd⟩ := hs
  obtain ⟨n1, n2, k1, k2, l1, l2, m1, m2, cp, dp⟩ := hd
  dsimp only at hXi hXc hXo hXa hXd si sc scl so sa sd n1 n2 ⊢
  clear hXi hXo hXa scl cp dp k1 k2 l1 l2 m1 m2 si so sa
  go_enter Try.func17, Try.ntmps17
  go_wp2
  go_loop [7, 8, 9, 10, 11, 12] (fun p _ _ _ _ _ => ∃ i : Nat, (i : Int) ≤ N ∧ Pl.term (Pl.okOf plain R) CP lc DP DR ld i = true ∧ p = .int .i64 (i + 1)) (fun p _ _ _ _ _ => (N + 1 - intOf p).toNat)
  case atStart => exact ⟨0, by omega, rfl, rfl⟩
  case round =>
    obtain ⟨i, hi, hterm, rfl⟩ := hrel
    have HT : Hid (Pl.term (Pl.okOf plain R) CP lc DP DR ld i = true) := hterm
    clear hterm
    by_cases hlt : (i : Int) + 1 ≤ N
    · have HS : Hid (Pl.term (Pl.okOf plain R) CP lc DP DR ld (i + 1) = (Pl.crashed CP ((i : Int) + 1) lc || Pl.onT (Pl.okOf plain R) DP DR ((i : Int) + 1) ld)) := by
        show Pl.term (Pl.okOf plain R) CP lc DP DR ld (i + 1) = _
        rw [Pl.term, HT.out]; rfl
      have HN : Hid (Pl.term (Pl.okOf plain R) CP lc DP DR ld (i + 1) = false → Pl.term (Pl.okOf plain R) CP lc DP DR ld N.toNat = false) := fun h => Pl.term_mono (by omega) h
      go_wp2
      go_loop [8, 9] (fun s j => ∃ k : Nat, k ≤ lc ∧ s = .bool (Pl.crashed CP ((i : Int) + 1) k) ∧ j = .int .i64 k) (fun _ j => lc - (intOf j).toNat)
      case atStart => exact ⟨0, by omega, rfl, rfl⟩
      case round =>
        obtain ⟨k, hk, rfl, rfl⟩ := hrel
        cases hcr : Pl.crashed CP ((i : Int) + 1) k
        · by_cases hlk : k < lc
          · have hcell := hXc.c0 k hlk
            have hb := hXc.lt hlk
            obtain rfl := hXc.addr (by omega)
            have HJ : Hid (Pl.crashed CP ((i : Int) + 1) (k + 1) = (CP k == ((i : Int) + 1))) := by
              show Pl.crashed CP ((i : Int) + 1) (k + 1) = _
              rw [Pl.crashed, hcr]; rfl
            clear hcr hXc hXd
            cases he : (CP k == ((i : Int) + 1))
            · rw [he] at HJ
              go_wp2
              go_round
              case rel => exact ⟨k + 1, by omega, by rw [HJ.out], by go_num⟩
              case measure => simp [intOf]; omega
            · rw [he] at HJ
              go_wp2
              go_round
              case rel => exact ⟨k + 1, by omega, by rw [HJ.out], by go_num⟩
              case measure => simp [intOf]; omega
          · obtain rfl : k = lc := by omega
            rw [hcr, Bool.false_or] at HS
            have HR : Hid (Pl.crashed CP ((i : Int) + 1) k = false) := hcr
            clear hcr
            go_wp2
            go_loop [10, 11] (fun l j => ∃ (lv : Int) (m : Nat), m ≤ ld ∧ l = .int .i64 lv ∧ j = .int .i64 ((m : Int) - 1) ∧ ((lv = -1 ∧ Pl.onT (Pl.okOf plain R) DP DR ((i : Int) + 1) ld = Pl.onT (Pl.okOf plain R) DP DR ((i : Int) + 1) m) ∨ (0 ≤ lv ∧ lv < ld ∧ Pl.onT (Pl.okOf plain R) DP DR ((i : Int) + 1) ld = Pl.okOf plain R (DR lv.toNat)))) (fun _ j => (intOf j + 1).toNat)
            case atStart => exact ⟨_, ld, Nat.le_refl _, rfl, rfl, Or.inl ⟨rfl, rfl⟩⟩
            case round =>
              obtain ⟨lv, m, hm, rfl, rfl, hcase⟩ := hrel
              rcases hcase with ⟨rfl, honT⟩ | ⟨lv0, lv1, honT⟩
              · have HO : Hid (Pl.onT (Pl.okOf plain R) DP DR ((i : Int) + 1) ld = Pl.onT (Pl.okOf plain R) DP DR ((i : Int) + 1) m) := honT
                clear honT
                rcases Nat.eq_zero_or_pos m with hm0 | hm0
                · subst hm0
                  have hf : Pl.term (Pl.okOf plain R) CP k DP DR ld N.toNat = false := HN.out (by rw [HS.out, HO.out]; rfl)
                  have HF : Hid (Pl.term (Pl.okOf plain R) CP k DP DR ld N.toNat = false) := hf
                  clear hf
                  go_wp2
                  go_ret
                  exact TermPost.mk _ _ _ _ false HF.out
                · obtain ⟨m', rfl⟩ : ∃ m', m = m' + 1 := ⟨m - 1, by omega⟩
                  have hcell := hXd.c0 m' (by omega)
                  have hb := hXd.lt (show m' < ld by omega)
                  obtain rfl := hXd.addr (by omega)
                  have HO' : Hid (Pl.onT (Pl.okOf plain R) DP DR ((i : Int) + 1) (m' + 1) = if DP m' == ((i : Int) + 1) then Pl.okOf plain R (DR m') else Pl.onT (Pl.okOf plain R) DP DR ((i : Int) + 1) m') := rfl
                  clear hXc hXd
                  cases he : (DP m' == ((i : Int) + 1))
                  · rw [he] at HO'
                    go_wp2
                    go_round
                    case rel => exact ⟨_, m', by omega, rfl, by go_num, Or.inl ⟨rfl, by rw [HO.out, HO'.out]; rfl⟩⟩
                    case measure => simp [intOf]
                  · rw [he] at HO'
                    go_wp2
                    go_round
                    case rel => exact ⟨(m' : Int), m', by omega, by go_num, by go_num, Or.inr ⟨by omega, by omega, by rw [HO.out, HO'.out]; simp⟩⟩
                    case measure => simp [intOf]
              · obtain ⟨lm, rfl⟩ := Int.eq_ofNat_of_zero_le lv0
                have HO : Hid (Pl.onT (Pl.okOf plain R) DP DR ((i : Int) + 1) ld = Pl.okOf plain R (DR lm)) := by
                  rw [Int.toNat_natCast] at honT; exact honT
                clear honT
                have hcell := hXd.c2 lm (by omega)
                have hb := hXd.lt (show lm < ld by omega)
                obtain rfl := hXd.addr (by omega)
                rw [HO.out] at HS
                clear HO hXc hXd
                cases plain
                · by_cases h1 : DR lm < 1
                  · have HF : Hid (Pl.term (Pl.okOf false R) CP k DP DR ld N.toNat = false) := HN.out (by rw [HS.out]; simp [Pl.okOf, Pl.inR]; omega)
                    go_wp2
                    all_goals
                      go_ret
                      exact TermPost.mk _ _ _ _ false HF.out
                  by_cases h2 : R < DR lm
                  · have HF : Hid (Pl.term (Pl.okOf false R) CP k DP DR ld N.toNat = false) := HN.out (by rw [HS.out]; simp [Pl.okOf, Pl.inR]; omega)
                    go_wp2
                    all_goals
                      go_ret
                      exact TermPost.mk _ _ _ _ false HF.out
                  · go_wp2
                    all_goals
                      go_round
                      case rel => exact ⟨i + 1, by omega, by rw [HS.out]; simp [Pl.okOf, Pl.inR]; omega, by go_num⟩
                      case measure => simp [intOf]; omega
                · cases h1 : (DR lm == R)
                  · have HF : Hid (Pl.term (Pl.okOf true R) CP k DP DR ld N.toNat = false) := HN.out (by rw [HS.out]; simp [Pl.okOf, h1])
                    have h2 : (DR lm != R) = true := by rw [bne, h1]; rfl
                    go_wp2
                    all_goals
                      go_ret
                      exact TermPost.mk _ _ _ _ false HF.out
                  · have h2 : (DR lm != R) = false := by rw [bne, h1]; rfl
                    go_wp2
                    all_goals
                      go_round
                      case rel => exact ⟨i + 1, by omega, by rw [HS.out]; simp [Pl.okOf, h1], by go_num⟩
                      case measure => simp [intOf]; omega
        · have hcr' := Pl.crashed_mono CP ((i : Int) + 1) hk hcr
          rw [hcr', Bool.true_or] at HS
          clear hcr'
          clear hXc hXd
          go_wp2
          all_goals
            go_round
            case rel => exact ⟨i + 1, by omega, by rw [HS.out], by go_num⟩
            case measure => simp [intOf]; omega
    · obtain ⟨N', rfl⟩ := Int.eq_ofNat_of_zero_le (show 0 ≤ N by omega)
      obtain rfl : i = N' := by omega
      go_wp2
      go_ret
      exact TermPost.mk _ _ _ _ true (by dsimp only; rw [Int.toNat_natCast]; exact HT.out)
end Go.Proofs.Qxb6613846a
