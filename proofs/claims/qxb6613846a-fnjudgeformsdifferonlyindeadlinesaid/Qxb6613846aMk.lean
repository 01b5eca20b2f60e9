/-
  'make' with a variable size at elements of several cells; a row of the call's own. No program in sight.
-/
import Derived.WalkKit
import Derived.Laws.MakeOwn
import Derived.Deep.OwnRows
import Derived.Below
import Derived.Deep.Draws
namespace Go.Proofs.Qxb6613846a
open Go.RowKit

theorem run_make_any {P : Program} (t e : TypeId) (z : Value) (size bytes : Nat) (ht : P.underlying t = some (.slice e)) (hinfo : (P.info? e).map (fun i => (i.zero, i.size, i.bytes)) = some (some z, size, bytes))
    (n : Nat) (hbytes : bytes * n ≤ 281474976710656) (h63 : n ≤ 9223372036854775807) (w : World) :
    (Instr.makeSlice t (.int .i64 (n : Int)) (.int .i64 (n : Int))).run P w = .ok (.slice (some ⟨w.heap.size, 0, none⟩) n n) (w.alloc (.cells (madeCells z.cells (n * size)) e)) := by
  obtain ⟨i, hi, hzz⟩ := Option.map_eq_some_iff.1 hinfo
  simp only [Prod.mk.injEq] at hzz
  obtain ⟨hz, hs, hb⟩ := hzz
  subst hs hb
  have hb' : (i.bytes : Int) * (n : Int) ≤ 281474976710656 := by
    have h : ((i.bytes * n : Nat) : Int) ≤ 281474976710656 := by omega
    rwa [Int.natCast_mul] at h
  have hr := run_make (P := P) w t e i z ht hi hz .i64 .i64 n n (by omega) (Int.le_refl _) hb' (by omega)
  simp only [Int.toNat_natCast] at hr
  exact hr

/-- Block b is a row of n cells, none frozen. -/
theorem rowIs_made (w : World) (z : Array Value) (n : Nat) (t : TypeId) : ∃ f, (w.alloc (.cells (madeCells z n) t)).rowIs w.heap.size t n f := by
  have h := World.rowIs_alloc w (madeCells z n) t (fun i => (madeCells z n)[i]?.getD undef) (fun i hi => by simp [hi])
  rw [size_madeCells] at h
  exact ⟨_, h⟩
theorem rowIs_drewN {w : World} {b : Nat} {t : TypeId} {n : Nat} {f : Nat → Value} (h : w.rowIs b t n f) (q : Nat) : (w.drewN q).rowIs b t n f := h.of_block rfl
theorem below_drewN' {B : Nat} {a w : World} (h : Below B a w) (n : Nat) : Below B a (w.drewN n) := h.trans ⟨rfl, rfl, rfl, Nat.le_refl _, fun _ _ => rfl⟩
end Go.Proofs.Qxb6613846a
