import Derived.Test.Qxb6613846aRows
import Derived.Test.Qxb6613846aIn
import Derived.WalkKit
import Derived.WalkSpells
import Derived.WalkLawsBesides
import Derived.LoopTactic
import Derived.RegionTactic
import Derived.Laws.Pointers
import Derived.Outline
import Derived.RowKit3
import Derived.Test.Qxb6613846aMk
namespace Go.Proofs.Qxb6613846a
open Go.RowKit

theorem info3 : (Try.prog.info? 3).map (fun i => (i.zero, i.size, i.bytes)) = some (some (.int .i64 0), 1, 8) := by kernel_rfl
theorem info79 : (Try.prog.info? 79).map (fun i => (i.zero, i.size, i.bytes)) = some (some (.string ⟨#[]⟩), 1, 16) := by kernel_rfl

/-- Some slice has come back; nothing old has turned. -/
def SlicePost (w : World) (e : Ending) (w' : World) : Prop := (∃ (a : Option Addr) (n c : Nat), e = .returned (.slice a n c)) ∧ Below w.heap.size w w'

set_option maxRecDepth 100000 in
set_option maxHeartbeats 1000000 in
/-- zzInts. -/
theorem ints_any (a : Option Addr) (n c b o : Nat) (Z : Nat → Int) (w : World) (hn : n ≤ 1048576) (hI : Ints w a n b o Z) :
    Calls Try.prog 26 #[.slice a n c] w (SlicePost w) := by
  have hq := fun w a n c => Lib.run_eql_slice_nil (P := Try.prog) w 57 3 a n c 0 0 Try.underlying57
  cases a with
  | none =>
    go_enter Try.func26, Try.ntmps26
    go_wp2
    go_ret
    exact ⟨⟨_, _, _, rfl⟩, Below.refl _ _⟩
  | some ad =>
    have hmk := run_make_any (P := Try.prog) 57 3 (.int .i64 0) 1 8 Try.underlying57 info3 n (by omega) (by omega)
    go_enter Try.func26, Try.ntmps26
    go_wp2
    go_loopw [4] (fun i wr => ∃ (k : Nat) (f : Nat → Value), k ≤ n ∧ wr.rowIs w.heap.size 3 n f ∧ Below w.heap.size w wr ∧ i = .int .i64 k) (fun i _ => n - (intOf i).toNat)
    case atStart =>
      obtain ⟨f, hf⟩ := rowIs_made w #[.int .i64 0] n 3
      exact ⟨0, f, by omega, hf, (Below.refl _ _).alloc (Nat.le_refl _) _, rfl⟩
    case round =>
      obtain ⟨k, f, hk, hrow, hbel, rfl⟩ := hrel
      by_cases hlt : k < n
      · have hcell := keeps_of_below hbel _ _ (hI.cell k hlt)
        obtain rfl := Option.some.inj (hI.addr (by omega))
        have hr := hrow.cell hlt
        have hz := hrow.frozen k
        have HR : Hid (wr.rowIs w.heap.size 3 n f) := hrow
        have HB : Hid (Below w.heap.size w wr) := hbel
        clear hI hrow hbel
        go_wp2
        go_roundw
        case rel => exact ⟨k + 1, _, by omega, HR.out.set k _, HB.out.setCell (Nat.le_refl _) _, by go_num⟩
        case measure => simp [intOf]; omega
      · have HB : Hid (Below w.heap.size w wr) := hbel
        clear hI hrow hbel
        go_wp2
        go_ret
        exact ⟨⟨_, _, _, rfl⟩, HB.out⟩

/-- A copy of the strings has come back. -/
def StrsPost (n : Nat) (I : Nat → ByteArray) (w : World) (e : Ending) (w' : World) : Prop := (∃ (a : Option Addr) (c b : Nat), e = .returned (.slice a n c) ∧ Strs w' a n b 0 I) ∧ Below w.heap.size w w'

theorem set_str {I : Nat → ByteArray} {f : Nat → Value} {k : Nat} (h : ∀ i, i < k → f i = .string (I i)) : ∀ i, i < k + 1 → (fun j => if j = k then Value.string (I k) else f j) i = .string (I i) := fun i hi => by
  rcases Nat.lt_or_ge i k with h1 | h1
  · show (if i = k then _ else _) = _
    rw [if_neg (by omega), h i h1]
  · obtain rfl : i = k := by omega
    show (if i = i then _ else _) = _
    rw [if_pos rfl]

set_option maxRecDepth 100000 in
set_option maxHeartbeats 1000000 in
/-- zzValues. -/
theorem values_any (a : Option Addr) (n c b o : Nat) (I : Nat → ByteArray) (w : World) (hn : n ≤ 1048576) (hI : Strs w a n b o I) :
    Calls Try.prog 30 #[.slice a n c] w (StrsPost n I w) := by
  have hq := fun w a n c => Lib.run_eql_slice_nil (P := Try.prog) w 22 9 a n c 0 0 Try.underlying22
  cases a with
  | none =>
    obtain rfl : n = 0 := by
      rcases Nat.eq_zero_or_pos n with h | h
      · exact h
      · cases hI.addr h
    go_enter Try.func30, Try.ntmps30
    go_wp2
    go_ret
    exact ⟨⟨_, _, 0, rfl, ⟨fun h => absurd h (by omega), fun i hi => absurd hi (by omega)⟩⟩, Below.refl _ _⟩
  | some ad =>
    have hmk := run_make_any (P := Try.prog) 44 79 (.string ⟨#[]⟩) 1 16 Try.underlying44 info79 n (by omega) (by omega)
    go_enter Try.func30, Try.ntmps30
    go_wp2
    go_loopw [4] (fun i wr => ∃ (k : Nat) (f : Nat → Value), k ≤ n ∧ wr.rowIs w.heap.size 79 n f ∧ (∀ i, i < k → f i = .string (I i)) ∧ Below w.heap.size w wr ∧ i = .int .i64 k) (fun i _ => n - (intOf i).toNat)
    case atStart =>
      obtain ⟨f, hf⟩ := rowIs_made w #[.string ⟨#[]⟩] n 79
      exact ⟨0, f, by omega, hf, (fun i hi => by omega), (Below.refl _ _).alloc (Nat.le_refl _) _, rfl⟩
    case round =>
      obtain ⟨k, f, hk, hrow, hval, hbel, rfl⟩ := hrel
      have HV : Hid (∀ i, i < k → f i = .string (I i)) := hval
      clear hval
      by_cases hlt : k < n
      · have hcell := keeps_of_below hbel _ _ (hI.cell k hlt)
        obtain rfl := Option.some.inj (hI.addr (by omega))
        have hr := hrow.cell hlt
        have hz := hrow.frozen k
        have HR : Hid (wr.rowIs w.heap.size 79 n f) := hrow
        have HB : Hid (Below w.heap.size w wr) := hbel
        clear hI hrow hbel
        go_wp2
        go_roundw
        case rel => exact ⟨k + 1, _, by omega, HR.out.set k _, set_str HV.out, HB.out.setCell (Nat.le_refl _) _, by go_num⟩
        case measure => simp [intOf]; omega
      · obtain rfl : k = n := by omega
        have HB : Hid (Below w.heap.size w wr) := hbel
        have HR : Hid (wr.rowIs w.heap.size 79 k f) := hrow
        clear hI hrow hbel
        go_wp2
        go_ret
        exact ⟨⟨_, _, w.heap.size, rfl, ⟨fun _ => rfl, fun i hi => by rw [Nat.zero_add, HR.out.cell hi, HV.out i hi]⟩⟩, HB.out⟩
end Go.Proofs.Qxb6613846a
