import Derived.Test.Qxb6613846aRows
import Derived.Test.Qxb6613846aIn
import Derived.WalkKit
import Derived.WalkSpells
import Derived.WalkLawsBesides
import Derived.LoopTactic
import Derived.RegionTactic
import Derived.Laws.Pointers
import Derived.Outline
import Derived.RowKit3
import Derived.Test.Qxb6613846aPl2
import Derived.Test.Qxb6613846aMk
import Derived.BigQuiet
import Derived.Deep.QuietTactic
namespace Go.Proofs.Qxb6613846a
open Go.RowKit

theorem beq_swap (x y : ByteArray) : (x.toList == y.toList) = (y.toList == x.toList) := Bool.beq_comm

/-- slices.Index gives a place or -1. -/
def IdxPost (b : Bool) (w : World) (e : Ending) (w' : World) : Prop := (∃ r : Int, e = .returned (.int .i64 r) ∧ decide (0 ≤ r) = b) ∧ w = w'

set_option maxRecDepth 100000 in
set_option maxHeartbeats 1000000 in
/-- slices.Index at values. -/
theorem index_any (a : Option Addr) (n c b o : Nat) (I : Nat → ByteArray) (v : ByteArray) (w : World) (hn : n ≤ 1048576) (hI : Strs w a n b o I) :
    Calls Try.prog 53 #[.slice a n c, .string v] w (IdxPost (Pl.seen I v n) w) := by
  go_enter Try.func53, Try.ntmps53
  go_wp2
  go_loop [5, 8] (fun _ i => ∃ k : Nat, k ≤ n ∧ Pl.seen I v k = false ∧ i = .int .i64 k) (fun _ i => n - (intOf i).toNat)
  case atStart => exact ⟨0, by omega, rfl, rfl⟩
  case round =>
    obtain ⟨k, hk, hsn, rfl⟩ := hrel
    have HS : Hid (Pl.seen I v k = false) := hsn
    clear hsn
    by_cases hlt : k < n
    · have hcell := hI.cell k hlt
      obtain rfl := hI.addr (by omega)
      have HJ : Hid (Pl.seen I v (k + 1) = (v.toList == (I k).toList)) := by
        show Pl.seen I v (k + 1) = _
        rw [Pl.seen, HS.out, beq_swap]; rfl
      clear hI
      cases he : (v.toList == (I k).toList)
      · rw [he] at HJ
        go_wp2
        go_round
        case rel => exact ⟨k + 1, by omega, HJ.out, by go_num⟩
        case measure => simp [intOf]; omega
      · rw [he] at HJ
        have HF : Hid (Pl.seen I v n = true) := Pl.seen_mono I v (show k + 1 ≤ n by omega) HJ.out
        go_wp2
        go_ret
        exact ⟨⟨(k : Int), rfl, by rw [HF.out]; simp⟩, rfl⟩
    · obtain rfl : k = n := by omega
      go_wp2
      go_ret
      exact ⟨⟨-1, rfl, by rw [HS.out]; rfl⟩, rfl⟩

/-- slices.Contains at values. -/
theorem contains_any (a : Option Addr) (n c b o : Nat) (I : Nat → ByteArray) (v : ByteArray) (w : World) (hn : n ≤ 1048576) (hI : Strs w a n b o I) :
    Calls Try.prog 49 #[.slice a n c, .string v] w fun e w' => e = .returned (.bool (Pl.seen I v n)) ∧ w = w' := by
  generalize hb : Pl.seen I v n = bb
  have HB : Hid (Pl.seen I v n = bb) := hb
  clear hb
  go_enter Try.func49, Try.ntmps49
  go_wp2_with fail
  refine (index_any _ _ _ _ _ _ _ _ hn hI).mono ?_
  rintro e w' ⟨⟨r, rfl, hr⟩, rfl⟩
  have hr2 : decide (0 ≤ r) = bb := hr.trans HB.out
  clear hr hI
  go_wp2
  go_ret
  exact ⟨by rw [← hr2]; rfl, rfl⟩

/-- SomeInput's closure. -/
theorem someClosure_any (sb : Nat) (a : Option Addr) (n c b o : Nat) (I : Nat → ByteArray) (v : ByteArray) (w : World) (hn : n ≤ 1048576) (hc : w.cell? ⟨sb, 0, none⟩ = some (.slice a n c)) (hI : Strs w a n b o I) :
    Calls Try.prog 48 #[.string v, .pointer (some ⟨sb, 0, none⟩)] w fun e w' => e = .returned (.bool (Pl.seen I v n)) ∧ w = w' := by
  go_enter Try.func48, Try.ntmps48
  go_wp2_with fail
  refine (contains_any _ _ _ _ _ _ _ _ hn hI).mono ?_
  rintro e w' ⟨rfl, rfl⟩
  clear hI
  go_wp2
  go_ret
  exact ⟨rfl, rfl⟩

/-- SomeInput. -/
theorem someInput_any (a : Option Addr) (n c : Nat) (w : World) :
    Calls Try.prog 42 #[.slice a n c] w fun e w' => e = .returned (.func (.func 48) #[] #[.pointer (some ⟨w.heap.size, 0, none⟩)]) ∧ w' = w.alloc (.cells #[.slice a n c] 44) := by
  go_enter Try.func42, Try.ntmps42
  go_wp2
  go_ret
  exact ⟨rfl, rfl⟩

/-- InRounds. -/
theorem inRounds_any (lo hi : Int) (w : World) :
    Calls Try.prog 44 #[.int .i64 lo, .int .i64 hi] w fun e w' => e = .returned (.func (.func 51) #[] #[.pointer (some ⟨w.heap.size, 0, none⟩), .pointer (some ⟨w.heap.size + 1, 0, none⟩)]) ∧ w' = (w.alloc (.cells #[.int .i64 lo] 3)).alloc (.cells #[.int .i64 hi] 3) := by
  go_enter Try.func44, Try.ntmps44
  go_wp2
  go_ret
  exact ⟨rfl, rfl⟩

/-- InRounds' closure. -/
theorem roundClosure_any (b1 b2 : Nat) (lo hi : Int) (p r s : Int) (v : ByteArray) (w : World) (h1 : w.cell? ⟨b1, 0, none⟩ = some (.int .i64 lo)) (h2 : w.cell? ⟨b2, 0, none⟩ = some (.int .i64 hi)) :
    Calls Try.prog 51 #[.agg #[.int .i64 p, .string v, .int .i64 r, .int .i64 s], .pointer (some ⟨b1, 0, none⟩), .pointer (some ⟨b2, 0, none⟩)] w fun e w' => e = .returned (.bool (Pl.inR lo hi r)) ∧ ∃ c : Array Value, w' = w.alloc (.cells c 90) := by
  have n1 := World.block_lt_of_cell? w _ h1
  have n2 := World.block_lt_of_cell? w _ h2
  dsimp only at n1 n2
  by_cases a1 : lo ≤ r
  · by_cases a2 : r ≤ hi
    · have HF : Hid (Pl.inR lo hi r = true) := by show Pl.inR lo hi r = true; simp [Pl.inR, a1, a2]
      go_enter Try.func51, Try.ntmps51
      go_wp2
      go_ret
      exact ⟨by rw [HF.out]; rfl, _, rfl⟩
    · have HF : Hid (Pl.inR lo hi r = false) := by show Pl.inR lo hi r = false; simp [Pl.inR, a2]
      have a2' : decide (r ≤ hi) = false := by simpa using a2
      go_enter Try.func51, Try.ntmps51
      go_wp2
      go_ret
      exact ⟨by rw [HF.out]; rfl, _, rfl⟩
  · have HF : Hid (Pl.inR lo hi r = false) := by show Pl.inR lo hi r = false; simp [Pl.inR, a1]
    have a1' : decide (lo ≤ r) = false := by simpa using a1
    go_enter Try.func51, Try.ntmps51
    go_wp2
    go_ret
    exact ⟨by rw [HF.out]; rfl, _, rfl⟩

/-- judge's closure. -/
theorem boundClosure_any (b1 : Nat) (B : Int) (p r s : Int) (v : ByteArray) (w : World) (h1 : w.cell? ⟨b1, 0, none⟩ = some (.int .i64 B)) :
    Calls Try.prog 47 #[.agg #[.int .i64 p, .string v, .int .i64 r, .int .i64 s], .pointer (some ⟨b1, 0, none⟩)] w fun e w' => e = .returned (.bool (decide (B < r))) ∧ ∃ c : Array Value, w' = w.alloc (.cells c 90) := by
  have n1 := World.block_lt_of_cell? w _ h1
  dsimp only at n1
  go_enter Try.func47, Try.ntmps47
  go_wp2
  go_ret
  exact ⟨rfl, _, rfl⟩

set_option maxRecDepth 100000 in
set_option maxHeartbeats 1000000 in
/-- sendersPerRound. -/
theorem senders_any (N K M L : Int) (w : World) (n1 : 1 ≤ N) (n2 : N ≤ 65536) (k1 : 1 ≤ K) (k2 : K ≤ 1073741824) (l1 : 1 ≤ L) (l2 : L ≤ 1073741824) (m1 : 1 ≤ M) (m2 : M ≤ 16384) :
    Calls Try.prog 45 #[.int .i64 N, .int .i64 K, .int .i64 M, .int .i64 L] w fun e w' => e = .returned (.int .i64 (Pl.senders N K M L)) ∧ ∃ q, w' = w.drewN q := by
  obtain ⟨q0, q1⟩ := Pl.div_bd K L k1 k2 l1
  obtain ⟨r0, r1⟩ := Pl.mod_bd K L l1 l2
  obtain ⟨p0, p1⟩ := Pl.mul_bd M (K / L) m1 m2 q0 q1
  by_cases h : N ≤ K / L
  · have HD : Hid (Pl.senders N K M L = N) := by
      show Pl.senders N K M L = N
      unfold Pl.senders; split <;> omega
    go_enter Try.func45, Try.ntmps45
    go_wp2
    go_ret
    exact ⟨by rw [HD.out]; rfl, 0, rfl⟩
  · go_enter Try.func45, Try.ntmps45
    go_wp2
    go_region
    rw [show (if N < M * (K / L) + K % L then N else M * (K / L) + K % L) = Pl.senders N K M L from rfl]
    go_wp2
    go_ret
    exact ⟨rfl, 1, rfl⟩

/-- slices.IndexFunc with judge's closure. -/
def IdxFPost (b : Bool) (w : World) (e : Ending) (w' : World) : Prop := (∃ r : Int, e = .returned (.int .i64 r) ∧ decide (0 ≤ r) = b) ∧ Below w.heap.size w w'

set_option maxRecDepth 100000 in
set_option maxHeartbeats 1000000 in
theorem indexFunc_any (a : Option Addr) (n c b : Nat) (P : Nat → Int) (V : Nat → ByteArray) (R S : Nat → Int) (bb : Nat) (B : Int) (w : World) (hn : n ≤ 1048576) (hD : Decs w a n b 0 P V R S) (hB : w.cell? ⟨bb, 0, none⟩ = some (.int .i64 B)) :
    Calls Try.prog 52 #[.slice a n c, .func (.func 47) #[] #[.pointer (some ⟨bb, 0, none⟩)]] w (IdxFPost (Pl.above B R n) w) := by
  go_enter Try.func52, Try.ntmps52
  go_wp2
  go_loopw [5, 8] (fun _ i wr => ∃ k : Nat, k ≤ n ∧ Pl.above B R k = false ∧ Below w.heap.size w wr ∧ i = .int .i64 k) (fun _ i _ => n - (intOf i).toNat)
  case atStart => exact ⟨0, by omega, rfl, Below.refl _ _, rfl⟩
  case round =>
    obtain ⟨k, hk, hab, hbel, rfl⟩ := hrel
    have HS : Hid (Pl.above B R k = false) := hab
    have HB : Hid (Below w.heap.size w wr) := hbel
    have hkp := keeps_of_below hbel
    clear hab
    by_cases hlt : k < n
    · have h0 := hkp _ _ (hD.c0 k hlt)
      have h1 := hkp _ _ (hD.c1 k hlt)
      have h2 := hkp _ _ (hD.c2 k hlt)
      have h3 := hkp _ _ (hD.c3 k hlt)
      have hb := hkp _ _ hB
      obtain rfl := hD.addr (by omega)
      have HJ : Hid (Pl.above B R (k + 1) = decide (B < R k)) := by
        show Pl.above B R (k + 1) = _
        rw [Pl.above, HS.out]; rfl
      clear hD hkp hbel hB
      simp only [Nat.zero_add] at h0 h1 h2 h3
      go_wp2_with fail
      refine (boundClosure_any bb B _ _ _ _ _ hb).mono ?_
      rintro e w2 ⟨rfl, c2, rfl⟩
      cases he : decide (B < R k)
      · rw [he] at HJ
        go_wp2
        go_roundw
        case rel => exact ⟨k + 1, by omega, HJ.out, HB.out.alloc HB.out.size _, by go_num⟩
        case measure => simp [intOf]; omega
      · rw [he] at HJ
        have HF : Hid (Pl.above B R n = true) := Pl.above_mono (show k + 1 ≤ n by omega) HJ.out
        go_wp2
        go_ret
        exact ⟨⟨(k : Int), rfl, by rw [HF.out]; simp⟩, HB.out.alloc HB.out.size _⟩
    · obtain rfl : k = n := by omega
      clear hD hkp hbel hB
      go_wp2
      go_ret
      exact ⟨⟨-1, rfl, by rw [HS.out]; rfl⟩, HB.out⟩

/-- slices.ContainsFunc with judge's closure. -/
theorem containsFunc_any (a : Option Addr) (n c b : Nat) (P : Nat → Int) (V : Nat → ByteArray) (R S : Nat → Int) (bb : Nat) (B : Int) (w : World) (hn : n ≤ 1048576) (hD : Decs w a n b 0 P V R S) (hB : w.cell? ⟨bb, 0, none⟩ = some (.int .i64 B)) :
    Calls Try.prog 46 #[.slice a n c, .func (.func 47) #[] #[.pointer (some ⟨bb, 0, none⟩)]] w fun e w' => e = .returned (.bool (Pl.above B R n)) ∧ Below w.heap.size w w' := by
  go_enter Try.func46, Try.ntmps46
  go_wp2_with fail
  refine (indexFunc_any _ _ _ _ _ _ _ _ _ _ _ hn hD hB).mono ?_
  rintro e w' ⟨⟨r, rfl, hr⟩, hb⟩
  have HR : Hid (decide (0 ≤ r) = Pl.above B R n) := hr
  clear hr hD hB
  go_wp2
  go_ret
  exact ⟨by rw [← HR.out]; rfl, hb⟩
end Go.Proofs.Qxb6613846a
