import Derived.Test.Qxb6613846aRows
import Derived.Test.Qxb6613846aIn
import Derived.WalkKit
import Derived.WalkSpells
import Derived.WalkLawsBesides
import Derived.LoopTactic
import Derived.RegionTactic
import Derived.Laws.Pointers
import Derived.Outline
import Derived.RowKit3
import Derived.Test.Qxb6613846aPl
import Derived.Test.Qxb6613846aD
import Derived.BigQuiet
import Derived.Deep.QuietTactic
namespace Go.Proofs.Qxb6613846a
open Go.RowKit

def EarlyPost (X : Inp) (w : World) (e : Ending) (w' : World) : Prop :=
  e = .returned (.int .i8 (if Pl.someLate X.R X.lc (Pl.senders X.N X.K X.M X.L) X.DR X.ld then 2 else 1)) ∧ ∃ (c : Array Value) (q : Nat), w' = (w.alloc (.cells c 26)).drewN q
theorem EarlyPost.yes (X : Inp) (w : World) (c : Array Value) (q : Nat) (h : Pl.someLate X.R X.lc (Pl.senders X.N X.K X.M X.L) X.DR X.ld = true) : EarlyPost X w (.returned (.int .i8 2)) ((w.alloc (.cells c 26)).drewN q) :=
  ⟨by rw [if_pos h], c, q, rfl⟩
theorem EarlyPost.no (X : Inp) (w : World) (c : Array Value) (q : Nat) (h : Pl.someLate X.R X.lc (Pl.senders X.N X.K X.M X.L) X.DR X.ld = false) : EarlyPost X w (.returned (.int .i8 1)) ((w.alloc (.cells c 26)).drewN q) :=
  ⟨by rw [if_neg (by rw [h]; decide)], c, q, rfl⟩

set_option maxRecDepth 100000 in
set_option maxHeartbeats 4000000 in
/-- zzEarly. -/
theorem early_any (X : Inp) (w : World) (hX : Lies X w) (hs : Short X) (hd : Dom X) (hw : Wf X) :
    Calls Try.prog 14 #[.agg #[.int .i64 X.form, .int .i64 X.N, .int .i64 X.T, .int .i64 X.K, .int .i64 X.M, .int .i64 X.L, .slice X.ai X.li X.ci, .slice X.ac X.lc X.cc, .int .i64 X.R, .slice X.ao X.lo X.co, .slice X.aa X.la X.ca], .slice X.ad X.ld X.cd] w (EarlyPost X w) := by
  obtain ⟨form, N, T, K, M, L, R, ai, li, ci, bi, oi, I, ac, lc, cc, bc, oc, CP, CR, CA, CL, CC, CB, CO, CZ, ao, lo, co, bo, oo, OP, OR, OV, aa, la, ca, ba, oa, AP, AR, AV, ad, ld, cd, bd, od, DP, DV, DR, DS⟩ := X
  obtain ⟨hXi, hXc, hXo, hXa, hXd⟩ := hX
  obtain ⟨si, sc, scl, so, sa, sd⟩ := hs
  obtain ⟨n1, n2, k1, k2, l1, l2, m1, m2, cp, dp⟩ := hd
  have wr := hw.dr
  clear hw
  dsimp only at wr hXi hXc hXo hXa hXd si sc scl so sa sd n1 n2 k1 k2 l1 l2 m1 m2 ⊢
  clear hXi hXo hXa scl cp dp si so sa hXc
  obtain ⟨q0, q1⟩ := Pl.div_bd K L k1 k2 l1
  obtain ⟨r0, r1⟩ := Pl.mod_bd K L l1 l2
  obtain ⟨p0, p1⟩ := Pl.mul_bd M (K / L) m1 m2 q0 q1
  go_enter Try.func14, Try.ntmps14
  go_wp2
  go_quiet (fail)
  have hone := Pl.one_le M K L k1 l1 m1
  by_cases hN : N < M * (K / L) + K % L
  · have HD : Hid (Pl.senders N K M L = N) := if_pos hN
    go_wp2
    go_loop [7, 8, 9] (fun i _ _ => ∃ k : Nat, k ≤ ld ∧ Pl.someLate R lc N DR k = false ∧ i = .int .i64 k) (fun i _ _ => ld - (intOf i).toNat)
    case atStart => exact ⟨0, by omega, rfl, rfl⟩
    case round =>
      obtain ⟨k, hk, hsl, rfl⟩ := hrel
      have HL : Hid (Pl.someLate R lc N DR k = false) := hsl
      clear hsl
      by_cases hlt : k < ld
      · have hcell := hXd.c2 k hlt
        have hb := hXd.lt hlt
        have wk := wr k hlt
        obtain rfl := hXd.addr (by omega)
        clear hXd
        have HS : Hid (Pl.someLate R lc N DR (k + 1) = Pl.late R lc N (DR k)) := by
          show Pl.someLate R lc N DR (k + 1) = _
          rw [Pl.someLate, HL.out]; rfl
        have HY : Hid (Pl.late R lc N (DR k) = true → Pl.someLate R lc N DR ld = true) := fun h => Pl.someLate_mono (show k + 1 ≤ ld by omega) (by rw [HS.out]; exact h)
        generalize DR k = r at *
        by_cases a1 : R < r
        · have HF : Hid (Pl.someLate R lc N DR ld = true) := HY.out (by simp [Pl.late, a1])
          go_wp2
          go_ret
          exact EarlyPost.yes _ _ _ _ (by dsimp only; rw [HD.out]; exact HF.out)
        by_cases a2 : 2 < r
        · by_cases a3 : (lc : Int) < r - 2
          · have HF : Hid (Pl.someLate R lc N DR ld = true) := HY.out (by simp [Pl.late, a2, a3])
            go_wp2
            go_ret
            exact EarlyPost.yes _ _ _ _ (by dsimp only; rw [HD.out]; exact HF.out)
          have e0 : 0 ≤ (r - 2) * N := Int.mul_nonneg (by omega) (by omega)
          have e1 : (r - 2) * N ≤ 1048576 * 65536 := Int.mul_le_mul (by omega) (by omega) (by omega) (by omega)
          by_cases a4 : (lc : Int) < (r - 2) * N
          · have HF : Hid (Pl.someLate R lc N DR ld = true) := HY.out (by simp [Pl.late, a2, a4])
            go_wp2
            go_ret
            exact EarlyPost.yes _ _ _ _ (by dsimp only; rw [HD.out]; exact HF.out)
          · have HF : Hid (Pl.late R lc N r = false) := by
              show Pl.late R lc N r = false
              simp [Pl.late, a1, a3, a4]
            go_wp2
            go_round
            case rel => exact ⟨k + 1, by omega, by rw [HS.out, HF.out], by go_num⟩
            case measure => simp [intOf]; omega
        · have HF : Hid (Pl.late R lc N r = false) := by
            show Pl.late R lc N r = false
            simp [Pl.late, a1, a2]
          go_wp2
          go_round
          case rel => exact ⟨k + 1, by omega, by rw [HS.out, HF.out], by go_num⟩
          case measure => simp [intOf]; omega
      · obtain rfl : k = ld := by omega
        go_wp2
        go_ret
        exact EarlyPost.no _ _ _ _ (by dsimp only; rw [HD.out]; exact HL.out)
  · have HD : Hid (Pl.senders N K M L = M * (K / L) + K % L) := if_neg hN
    go_wp2
    generalize M * (K / L) + K % L = D at *
    go_loop [7, 8, 9] (fun i _ _ => ∃ k : Nat, k ≤ ld ∧ Pl.someLate R lc D DR k = false ∧ i = .int .i64 k) (fun i _ _ => ld - (intOf i).toNat)
    case atStart => exact ⟨0, by omega, rfl, rfl⟩
    case round =>
      obtain ⟨k, hk, hsl, rfl⟩ := hrel
      have HL : Hid (Pl.someLate R lc D DR k = false) := hsl
      clear hsl
      by_cases hlt : k < ld
      · have hcell := hXd.c2 k hlt
        have hb := hXd.lt hlt
        have wk := wr k hlt
        obtain rfl := hXd.addr (by omega)
        clear hXd
        have HS : Hid (Pl.someLate R lc D DR (k + 1) = Pl.late R lc D (DR k)) := by
          show Pl.someLate R lc D DR (k + 1) = _
          rw [Pl.someLate, HL.out]; rfl
        have HY : Hid (Pl.late R lc D (DR k) = true → Pl.someLate R lc D DR ld = true) := fun h => Pl.someLate_mono (show k + 1 ≤ ld by omega) (by rw [HS.out]; exact h)
        generalize DR k = r at *
        by_cases a1 : R < r
        · have HF : Hid (Pl.someLate R lc D DR ld = true) := HY.out (by simp [Pl.late, a1])
          go_wp2
          go_ret
          exact EarlyPost.yes _ _ _ _ (by dsimp only; rw [HD.out]; exact HF.out)
        by_cases a2 : 2 < r
        · by_cases a3 : (lc : Int) < r - 2
          · have HF : Hid (Pl.someLate R lc D DR ld = true) := HY.out (by simp [Pl.late, a2, a3])
            go_wp2
            go_ret
            exact EarlyPost.yes _ _ _ _ (by dsimp only; rw [HD.out]; exact HF.out)
          have e0 : 0 ≤ (r - 2) * D := Int.mul_nonneg (by omega) (by omega)
          have e1 : (r - 2) * D ≤ 1048576 * 65536 := Int.mul_le_mul (by omega) (by omega) (by omega) (by omega)
          by_cases a4 : (lc : Int) < (r - 2) * D
          · have HF : Hid (Pl.someLate R lc D DR ld = true) := HY.out (by simp [Pl.late, a2, a4])
            go_wp2
            go_ret
            exact EarlyPost.yes _ _ _ _ (by dsimp only; rw [HD.out]; exact HF.out)
          · have HF : Hid (Pl.late R lc D r = false) := by
              show Pl.late R lc D r = false
              simp [Pl.late, a1, a3, a4]
            go_wp2
            go_round
            case rel => exact ⟨k + 1, by omega, by rw [HS.out, HF.out], by go_num⟩
            case measure => simp [intOf]; omega
        · have HF : Hid (Pl.late R lc D r = false) := by
            show Pl.late R lc D r = false
            simp [Pl.late, a1, a2]
          go_wp2
          go_round
          case rel => exact ⟨k + 1, by omega, by rw [HS.out, HF.out], by go_num⟩
          case measure => simp [intOf]; omega
      · obtain rfl : k = ld := by omega
        go_wp2
        go_ret
        exact EarlyPost.no _ _ _ _ (by dsimp only; rw [HD.out]; exact HL.out)
end Go.Proofs.Qxb6613846a
