import Derived.Test.Qxb6613846aRows
import Derived.Test.Qxb6613846aIn
import Derived.WalkKit
import Derived.WalkSpells
import Derived.WalkLawsBesides
import Derived.LoopTactic
import Derived.RegionTactic
import Derived.Laws.Pointers
import Derived.Outline
import Derived.RowKit3
import Derived.Test.Qxb6613846aMk
import Derived.Test.Qxb6613846aF1
import Derived.Deep.RegionHeld3
import Derived.Deep.DrawnRows
namespace Go.Proofs.Qxb6613846a
open Go.RowKit

theorem info110 : (Try.prog.info? 110).map (fun i => (i.zero, i.size, i.bytes)) = some (some (.agg #[.int .i64 0, .int .i64 0, .string ⟨#[]⟩]), 3, 32) := by kernel_rfl

set_option maxRecDepth 100000 in
set_option maxHeartbeats 1000000 in
/-- zzChoices. -/
theorem copyChoices_any (a : Option Addr) (n c b o : Nat) (P R : Nat → Int) (V : Nat → ByteArray) (w : World) (hn : n ≤ 1048576) (hI : Chs w a n b o P R V) :
    Calls Try.prog 37 #[.slice a n c] w (SlicePost w) := by
  have hq := fun w a n c => Lib.run_eql_slice_nil (P := Try.prog) w 24 82 a n c 0 0 Try.underlying24
  cases a with
  | none =>
    go_enter Try.func37, Try.ntmps37
    go_wp2
    go_ret
    exact ⟨⟨_, _, _, rfl⟩, Below.refl _ _⟩
  | some ad =>
    have hmk := run_make_any (P := Try.prog) 46 110 _ 3 32 Try.underlying46 info110 n (by omega) (by omega)
    go_enter Try.func37, Try.ntmps37
    go_wp2
    go_loopw [4] (fun i wr => ∃ (k : Nat) (f : Nat → Value), k ≤ n ∧ wr.rowIs w.heap.size 110 (n * 3) f ∧ Below w.heap.size w wr ∧ i = .int .i64 k) (fun i _ => n - (intOf i).toNat)
    case atStart =>
      obtain ⟨f, hf⟩ := rowIs_made w #[.int .i64 0, .int .i64 0, .string ⟨#[]⟩] (n * 3) 110
      exact ⟨0, f, by omega, hf, (Below.refl _ _).alloc (Nat.le_refl _) _, rfl⟩
    case round =>
      obtain ⟨k, f, hk, hrow, hbel, rfl⟩ := hrel
      by_cases hlt : k < n
      · have h0 := keeps_of_below hbel _ _ (hI.c0 k hlt)
        have h1 := keeps_of_below hbel _ _ (hI.c1 k hlt)
        have h2 := keeps_of_below hbel _ _ (hI.c2 k hlt)
        have hne : b < w.heap.size := hI.lt hlt
        have hne2 : w.heap.size ≠ b := by omega
        obtain rfl := Option.some.inj (hI.addr (by omega))
        have r0 := hrow.cell (i := k * 3) (by omega)
        have r1 := hrow.cell (i := k * 3 + 1) (by omega)
        have r2 := hrow.cell (i := k * 3 + 2) (by omega)
        have z0 := hrow.frozen (k * 3)
        have z1 := hrow.frozen (k * 3 + 1)
        have z2 := hrow.frozen (k * 3 + 2)
        have HR : Hid (wr.rowIs w.heap.size 110 (n * 3) f) := hrow
        have HB : Hid (Below w.heap.size w wr) := hbel
        have hk0 : (0 : Int) ≤ (k : Int) := by omega
        have hk1 : (k : Int) < (n : Int) := by omega
        clear hI hrow hbel
        go_wp2
        go_region_held3 (fun w' => w'.cell? ⟨b, o + k * 3, none⟩ = some (.int .i64 (P k)) ∧ w'.cell? ⟨b, o + k * 3 + 1, none⟩ = some (.int .i64 (R k)) ∧ w'.cell? ⟨b, o + k * 3 + 2, none⟩ = some (.string (V k))) (go_keep) (fail)
        go_wp2
        go_roundw
        case rel => exact ⟨k + 1, _, by omega, (((HR.out.set _ _).set _ _).set _ _).drew, (((HB.out.setCell (Nat.le_refl _) _).setCell (Nat.le_refl _) _).setCell (Nat.le_refl _) _).drew, by go_num⟩
        case measure => simp [intOf]; omega
      · have HB : Hid (Below w.heap.size w wr) := hbel
        clear hI hrow hbel
        go_wp2
        go_ret
        exact ⟨⟨_, _, _, rfl⟩, HB.out⟩

theorem info90 : (Try.prog.info? 90).map (fun i => (i.zero, i.size, i.bytes)) = some (some (.agg #[.int .i64 0, .string ⟨#[]⟩, .int .i64 0, .int .i64 0]), 4, 40) := by kernel_rfl

/-- A copy of the decisions has come back. -/
def DecsPost (n : Nat) (P : Nat → Int) (V : Nat → ByteArray) (R S : Nat → Int) (w : World) (e : Ending) (w' : World) : Prop := (∃ (a : Option Addr) (c b : Nat), e = .returned (.slice a n c) ∧ Decs w' a n b 0 P V R S) ∧ Below w.heap.size w w'

/-- The first k of n elements have been laid. -/
structure Dec4 (f : Nat → Value) (k : Nat) (P : Nat → Int) (V : Nat → ByteArray) (R S : Nat → Int) : Prop where
  c0 : ∀ i, i < k → f (i * 4) = .int .i64 (P i)
  c1 : ∀ i, i < k → f (i * 4 + 1) = .string (V i)
  c2 : ∀ i, i < k → f (i * 4 + 2) = .int .i64 (R i)
  c3 : ∀ i, i < k → f (i * 4 + 3) = .int .i64 (S i)
theorem Dec4.step {f : Nat → Value} {k : Nat} {P : Nat → Int} {V : Nat → ByteArray} {R S : Nat → Int} (h : Dec4 f k P V R S) :
    Dec4 (fun j => if j = k * 4 + 3 then .int .i64 (S k) else (fun j => if j = k * 4 + 2 then .int .i64 (R k) else (fun j => if j = k * 4 + 1 then Value.string (V k) else (fun j => if j = k * 4 then .int .i64 (P k) else f j) j) j) j) (k + 1) P V R S := by
  refine ⟨fun i hi => ?_, fun i hi => ?_, fun i hi => ?_, fun i hi => ?_⟩
  all_goals
    rcases Nat.lt_or_ge i k with h1 | h1
    · have e0 := h.c0 i h1
      have e1 := h.c1 i h1
      have e2 := h.c2 i h1
      have e3 := h.c3 i h1
      dsimp only
      rw [if_neg (by omega), if_neg (by omega), if_neg (by omega), if_neg (by omega)]
      assumption
    · obtain rfl : i = k := by omega
      simp

set_option maxRecDepth 100000 in
set_option maxHeartbeats 1000000 in
/-- zzDecisions. -/
theorem decisions_any (a : Option Addr) (n c b o : Nat) (P : Nat → Int) (V : Nat → ByteArray) (R S : Nat → Int) (w : World) (hn : n ≤ 1048576) (hI : Decs w a n b o P V R S) :
    Calls Try.prog 13 #[.slice a n c] w (DecsPost n P V R S w) := by
  have hq := fun w a n c => Lib.run_eql_slice_nil (P := Try.prog) w 27 84 a n c 0 0 Try.underlying27
  cases a with
  | none =>
    obtain rfl : n = 0 := by
      rcases Nat.eq_zero_or_pos n with h | h
      · exact h
      · cases hI.addr h
    go_enter Try.func13, Try.ntmps13
    go_wp2
    go_ret
    exact ⟨⟨_, _, 0, rfl, ⟨fun h => absurd h (by omega), fun i hi => absurd hi (by omega), fun i hi => absurd hi (by omega), fun i hi => absurd hi (by omega), fun i hi => absurd hi (by omega)⟩⟩, Below.refl _ _⟩
  | some ad =>
    have hmk := run_make_any (P := Try.prog) 37 90 _ 4 40 Try.underlying37 info90 n (by omega) (by omega)
    go_enter Try.func13, Try.ntmps13
    go_wp2
    go_loopw [4] (fun i wr => ∃ (k : Nat) (f : Nat → Value), k ≤ n ∧ wr.rowIs w.heap.size 90 (n * 4) f ∧ Dec4 f k P V R S ∧ Below w.heap.size w wr ∧ i = .int .i64 k) (fun i _ => n - (intOf i).toNat)
    case atStart =>
      obtain ⟨f, hf⟩ := rowIs_made w #[.int .i64 0, .string ⟨#[]⟩, .int .i64 0, .int .i64 0] (n * 4) 90
      exact ⟨0, f, by omega, hf, ⟨fun i hi => absurd hi (by omega), fun i hi => absurd hi (by omega), fun i hi => absurd hi (by omega), fun i hi => absurd hi (by omega)⟩, (Below.refl _ _).alloc (Nat.le_refl _) _, rfl⟩
    case round =>
      obtain ⟨k, f, hk, hrow, hval, hbel, rfl⟩ := hrel
      have HV : Hid (Dec4 f k P V R S) := hval
      clear hval
      by_cases hlt : k < n
      · have h0 := keeps_of_below hbel _ _ (hI.c0 k hlt)
        have h1 := keeps_of_below hbel _ _ (hI.c1 k hlt)
        have h2 := keeps_of_below hbel _ _ (hI.c2 k hlt)
        have h3 := keeps_of_below hbel _ _ (hI.c3 k hlt)
        have hne : b < w.heap.size := hI.lt hlt
        have hne2 : w.heap.size ≠ b := by omega
        obtain rfl := Option.some.inj (hI.addr (by omega))
        have r0 := hrow.cell (i := k * 4) (by omega)
        have r1 := hrow.cell (i := k * 4 + 1) (by omega)
        have r2 := hrow.cell (i := k * 4 + 2) (by omega)
        have r3 := hrow.cell (i := k * 4 + 3) (by omega)
        have z0 := hrow.frozen (k * 4)
        have z1 := hrow.frozen (k * 4 + 1)
        have z2 := hrow.frozen (k * 4 + 2)
        have z3 := hrow.frozen (k * 4 + 3)
        have HR : Hid (wr.rowIs w.heap.size 90 (n * 4) f) := hrow
        have HB : Hid (Below w.heap.size w wr) := hbel
        have hk0 : (0 : Int) ≤ (k : Int) := by omega
        have hk1 : (k : Int) < (n : Int) := by omega
        clear hI hrow hbel
        go_wp2
        go_region_held3 (fun w' => w'.cell? ⟨b, o + k * 4, none⟩ = some (.int .i64 (P k)) ∧ w'.cell? ⟨b, o + k * 4 + 1, none⟩ = some (.string (V k)) ∧ w'.cell? ⟨b, o + k * 4 + 2, none⟩ = some (.int .i64 (R k)) ∧ w'.cell? ⟨b, o + k * 4 + 3, none⟩ = some (.int .i64 (S k))) (go_keep) (fail)
        go_wp2
        go_roundw
        case rel => exact ⟨k + 1, _, by omega, ((((HR.out.set _ _).set _ _).set _ _).set _ _).drew, HV.out.step, ((((HB.out.setCell (Nat.le_refl _) _).setCell (Nat.le_refl _) _).setCell (Nat.le_refl _) _).setCell (Nat.le_refl _) _).drew, by go_num⟩
        case measure => simp [intOf]; omega
      · obtain rfl : k = n := by omega
        have HB : Hid (Below w.heap.size w wr) := hbel
        have HR : Hid (wr.rowIs w.heap.size 90 (k * 4) f) := hrow
        clear hI hrow hbel
        go_wp2
        go_ret
        exact ⟨⟨_, _, w.heap.size, rfl, ⟨fun _ => rfl, fun i hi => by rw [Nat.zero_add, HR.out.cell (by omega), HV.out.c0 i hi], fun i hi => by rw [Nat.zero_add, HR.out.cell (by omega), HV.out.c1 i hi], fun i hi => by rw [Nat.zero_add, HR.out.cell (by omega), HV.out.c2 i hi], fun i hi => by rw [Nat.zero_add, HR.out.cell (by omega), HV.out.c3 i hi]⟩⟩, HB.out⟩
end Go.Proofs.Qxb6613846a
