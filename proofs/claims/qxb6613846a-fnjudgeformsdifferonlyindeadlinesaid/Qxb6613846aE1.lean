import Derived.Test.Qxb6613846aRows
import Derived.Test.Qxb6613846aIn
import Derived.WalkKit
import Derived.WalkSpells
import Derived.WalkLawsBesides
import Derived.LoopTactic
import Derived.RegionTactic
import Derived.Laws.Pointers
import Derived.Outline
import Derived.RowKit3
import Derived.Test.Qxb6613846aPl
import Derived.BigQuiet
import Derived.Deep.QuietTactic
namespace Go.Proofs.Qxb6613846a
open Go.RowKit

set_option maxRecDepth 100000 in
set_option maxHeartbeats 1000000 in
/-- zzDistinctValues. -/
theorem distinctValues_any (a : Option Addr) (n c b o : Nat) (P R S : Nat → Int) (V : Nat → ByteArray) (w : World) (hn : n ≤ 1048576) (hD : Decs w a n b o P V R S) :
    Calls Try.prog 15 #[.slice a n c] w fun e w' => e = .returned (.int .i64 (Pl.dcount V n : Nat)) ∧ ∃ q, w' = w.drewN q := by
  go_enter Try.func15, Try.ntmps15
  go_wp2
  go_loopw [3, 4, 5, 6] (fun t i _ _ wr => ∃ (q k : Nat), wr = w.drewN q ∧ k ≤ n ∧ t = .int .i64 (Pl.dcount V k : Nat) ∧ i = .int .i64 k) (fun _ i _ _ _ => n - (intOf i).toNat)
  case atStart => exact ⟨0, 0, rfl, by omega, rfl, rfl⟩
  case round =>
    obtain ⟨q, k, rfl, hk, rfl, rfl⟩ := hrel
    have hle := Pl.dcount_le V k
    by_cases hlt : k < n
    · have hck := hD.c1 k hlt
      have hcell := hD.c1
      obtain rfl := hD.addr (by omega)
      clear hD
      have HS : Hid (Pl.dcount V (k + 1) = Pl.dcount V k + if Pl.seen V (V k) k then 0 else 1) := rfl
      generalize Pl.dcount V k = m at *
      go_wp2
      go_loopw [5, 6] (fun s i wr => ∃ (q' j : Nat), wr = w.drewN q' ∧ j ≤ k ∧ s = .bool (Pl.seen V (V k) j) ∧ i = .int .i64 j) (fun _ i _ => k - (intOf i).toNat)
      case atStart => exact ⟨_, 0, rfl, by omega, rfl, rfl⟩
      case round =>
        obtain ⟨q', j, rfl, hj, rfl, rfl⟩ := hrel
        by_cases hlj : j < k
        · cases hs : Pl.seen V (V k) j
          · have hcj := hcell j (by omega)
            clear hcell
            have HJ : Hid (Pl.seen V (V k) (j + 1) = ((V j).toList == (V k).toList)) := by
              show Pl.seen V (V k) (j + 1) = _
              unfold Pl.seen; rw [hs]; rfl
            clear hs
            go_wp2
            go_quiet (fail)
            rw [World.drewN_drewN]
            cases he : ((V j).toList == (V k).toList)
            · rw [he] at HJ
              go_wp2
              go_roundw
              case rel => exact ⟨_, j + 1, rfl, by omega, by rw [HJ.out], by go_num⟩
              case measure => simp [intOf]; omega
            · rw [he] at HJ
              go_wp2
              go_roundw
              case rel => exact ⟨_, j + 1, rfl, by omega, by rw [HJ.out], by go_num⟩
              case measure => simp [intOf]; omega
          · have hs' := Pl.seen_mono V (V k) (show j ≤ k by omega) hs
            go_wp2
            go_roundw
            case rel => exact ⟨_, k + 1, rfl, by omega, by rw [HS.out, hs']; go_num, by go_num⟩
            case measure => simp [intOf]; omega
        · obtain rfl : j = k := by omega
          cases hs : Pl.seen V (V j) j
          · go_wp2
            go_roundw
            case rel => exact ⟨_, j + 1, rfl, by omega, by rw [HS.out, hs]; go_num, by go_num⟩
            case measure => simp [intOf]; omega
          · go_wp2
            go_roundw
            case rel => exact ⟨_, j + 1, rfl, by omega, by rw [HS.out, hs]; go_num, by go_num⟩
            case measure => simp [intOf]; omega
    · obtain rfl : k = n := by omega
      go_wp2
      go_ret
      exact ⟨rfl, _, rfl⟩

set_option maxRecDepth 100000 in
set_option maxHeartbeats 1000000 in
/-- zzAllInputs. -/
theorem allInputs_any (a : Option Addr) (n c b o : Nat) (P R S : Nat → Int) (V : Nat → ByteArray) (a' : Option Addr) (m c' b' o' : Nat) (I : Nat → ByteArray) (w : World) (hn : n ≤ 1048576) (hm : m ≤ 1048576)
    (hD : Decs w a n b o P V R S) (hI : Strs w a' m b' o' I) :
    Calls Try.prog 16 #[.slice a n c, .slice a' m c'] w fun e w' => e = .returned (.bool (Pl.allIn I m V n)) ∧ ∃ q, w' = w.drewN q := by
  go_enter Try.func16, Try.ntmps16
  go_wp2
  go_loopw [5, 6, 7] (fun i _ _ wr => ∃ (q k : Nat), wr = w.drewN q ∧ k ≤ n ∧ Pl.allIn I m V k = true ∧ i = .int .i64 k) (fun i _ _ _ => n - (intOf i).toNat)
  case atStart => exact ⟨0, 0, rfl, by omega, rfl, rfl⟩
  case round =>
    obtain ⟨q, k, rfl, hk, hall, rfl⟩ := hrel
    have HA : Hid (Pl.allIn I m V k = true) := hall
    clear hall
    by_cases hlt : k < n
    · have hck := hD.c1 k hlt
      obtain rfl := hD.addr (by omega)
      clear hD
      have HS : Hid (Pl.allIn I m V (k + 1) = Pl.seen I (V k) m) := by
        show Pl.allIn I m V (k + 1) = _
        unfold Pl.allIn; rw [HA.out]; rfl
      go_wp2
      go_loopw [6, 7] (fun s i wr => ∃ (q' j : Nat), wr = w.drewN q' ∧ j ≤ m ∧ s = .bool (Pl.seen I (V k) j) ∧ i = .int .i64 j) (fun _ i _ => m - (intOf i).toNat)
      case atStart => exact ⟨_, 0, rfl, by omega, rfl, rfl⟩
      case round =>
        obtain ⟨q', j, rfl, hj, rfl, rfl⟩ := hrel
        by_cases hlj : j < m
        · cases hs : Pl.seen I (V k) j
          · have hcj := hI.cell j (by omega)
            obtain rfl := hI.addr (by omega)
            clear hI
            have HJ : Hid (Pl.seen I (V k) (j + 1) = ((I j).toList == (V k).toList)) := by
              show Pl.seen I (V k) (j + 1) = _
              unfold Pl.seen; rw [hs]; rfl
            clear hs
            go_wp2
            go_quiet (fail)
            rw [World.drewN_drewN]
            cases he : ((I j).toList == (V k).toList)
            · rw [he] at HJ
              go_wp2
              go_roundw
              case rel => exact ⟨_, j + 1, rfl, by omega, by rw [HJ.out], by go_num⟩
              case measure => simp [intOf]; omega
            · rw [he] at HJ
              go_wp2
              go_roundw
              case rel => exact ⟨_, j + 1, rfl, by omega, by rw [HJ.out], by go_num⟩
              case measure => simp [intOf]; omega
          · have hs' := Pl.seen_mono I (V k) (show j ≤ m by omega) hs
            go_wp2
            go_roundw
            case rel => exact ⟨_, k + 1, rfl, by omega, by rw [HS.out, hs'], by go_num⟩
            case measure => simp [intOf]; omega
        · obtain rfl : j = m := by omega
          cases hs : Pl.seen I (V k) j
          · have hf : Pl.allIn I j V n = false := Pl.allIn_mono I j V (show k + 1 ≤ n by omega) (by rw [HS.out, hs])
            have HF : Hid (Pl.allIn I j V n = false) := hf
            clear hf
            go_wp2
            go_ret
            exact ⟨by rw [HF.out]; rfl, _, rfl⟩
          · go_wp2
            go_roundw
            case rel => exact ⟨_, k + 1, rfl, by omega, by rw [HS.out, hs], by go_num⟩
            case measure => simp [intOf]; omega
    · obtain rfl : k = n := by omega
      go_wp2
      go_ret
      exact ⟨by rw [HA.out]; rfl, _, rfl⟩
end Go.Proofs.Qxb6613846a
