import Derived.Test.Qxb6613846aRows
import Derived.Test.Qxb6613846aIn
import Derived.WalkKit
import Derived.WalkSpells
import Derived.WalkLawsBesides
import Derived.LoopTactic
import Derived.RegionTactic
import Derived.Laws.Pointers
import Derived.Outline
import Derived.RowKit3
import Derived.Test.Qxb6613846aG4
import Derived.Test.Qxb6613846aG5
namespace Go.Proofs.Qxb6613846a
open Go.RowKit

set_option maxRecDepth 100000 in
set_option maxHeartbeats 1000000 in
theorem zzPlain_any (X : Inp) (Y : Cp) (sb : Nat) (a : Option Addr) (c b : Nat) (w : World) (hS : Sc X Y sb 0 w) (hD : Decs w a X.ld b 0 X.DP X.DV X.DR X.DS) (hs : Short X) (hd : Dom X) (hw : Wf X) :
    Calls Try.prog 11 #[.pointer (some ⟨sb, 0, none⟩), .slice a X.ld c] w (PlainPost X w) := by
  have HS : Hid (Sc X Y sb 0 w) := hS
  have HD : Hid (Decs w a X.ld b 0 X.DP X.DV X.DR X.DS) := hD
  clear hS hD
  go_enter Try.func11, Try.ntmps11
  go_wp2_with fail
  refine (judgePlain_any X Y sb a c b _ (by exact HS.out.mono (keeps_alloc _ _)) (by exact HD.out.mono (keeps_alloc _ _)) hs hd hw).mono ?_
  rintro e w2 ⟨rfl, hb2⟩
  obtain ⟨g, hg⟩ := rowIs_few w #[.int .i64 0, .int .i64 0, .bool false, .int .i8 0, .bool false, .int .i8 0] 33
  have hr := rowIs_below hg hb2 (by simp)
  have hsz := hb2.size
  simp at hsz
  have y0 := hr.cell (i := 0) (by decide)
  have y1 := hr.cell (i := 1) (by decide)
  have y2 := hr.cell (i := 2) (by decide)
  have y3 := hr.cell (i := 3) (by decide)
  have y4 := hr.cell (i := 4) (by decide)
  have y5 := hr.cell (i := 5) (by decide)
  have z0 := hr.frozen 0
  have z1 := hr.frozen 1
  have z2 := hr.frozen 2
  have z3 := hr.frozen 3
  have z4 := hr.frozen 4
  have z5 := hr.frozen 5
  have HB : Hid (Below w.heap.size w w2) := ((Below.refl _ _).alloc (Nat.le_refl _) _).trans (hb2.mono (by simp))
  clear hg hr hb2 hs hd hw
  unfold VP
  go_wp2
  refine bodyPost_ret (v := VP X) (by simp [results, Try.results11, go_sem, y0, y1, y2, y3, y4, y5, VP]) rfl ⟨rfl, ?_⟩
  exact ((((((HB.out.setCell (Nat.le_refl _) _).setCell (Nat.le_refl _) _).setCell (Nat.le_refl _) _).setCell (Nat.le_refl _) _).setCell (Nat.le_refl _) _).setCell (Nat.le_refl _) _)

set_option maxRecDepth 100000 in
set_option maxHeartbeats 1000000 in
theorem zzEarly_any (X : Inp) (Y : Cp) (sb : Nat) (F : Int) (a : Option Addr) (c b : Nat) (w : World) (hS : Sc X Y sb F w) (hD : Decs w a X.ld b 0 X.DP X.DV X.DR X.DS) (hs : Short X) (hd : Dom X) (hw : Wf X) (hF : (F == 0) = false) :
    Calls Try.prog 11 #[.pointer (some ⟨sb, 0, none⟩), .slice a X.ld c] w (EarlyVPost X w) := by
  have HS : Hid (Sc X Y sb F w) := hS
  have HD : Hid (Decs w a X.ld b 0 X.DP X.DV X.DR X.DS) := hD
  clear hS hD
  go_enter Try.func11, Try.ntmps11
  go_wp2_with fail
  refine (judgeEarly_any X Y sb F a c b _ (by exact HS.out.mono (keeps_alloc _ _)) (by exact HD.out.mono (keeps_alloc _ _)) hs hd hw hF).mono ?_
  rintro e w2 ⟨rfl, hb2⟩
  obtain ⟨g, hg⟩ := rowIs_few w #[.int .i64 0, .int .i64 0, .bool false, .int .i8 0, .bool false, .int .i8 0] 33
  have hr := rowIs_below hg hb2 (by simp)
  have hsz := hb2.size
  simp at hsz
  have y0 := hr.cell (i := 0) (by decide)
  have y1 := hr.cell (i := 1) (by decide)
  have y2 := hr.cell (i := 2) (by decide)
  have y3 := hr.cell (i := 3) (by decide)
  have y4 := hr.cell (i := 4) (by decide)
  have y5 := hr.cell (i := 5) (by decide)
  have z0 := hr.frozen 0
  have z1 := hr.frozen 1
  have z2 := hr.frozen 2
  have z3 := hr.frozen 3
  have z4 := hr.frozen 4
  have z5 := hr.frozen 5
  have HB : Hid (Below w.heap.size w w2) := ((Below.refl _ _).alloc (Nat.le_refl _) _).trans (hb2.mono (by simp))
  clear hg hr hb2 hs hd hw
  unfold VE
  generalize hev : (if Pl.above (bnd X) X.DR X.ld = true then (2 : Int) else 1) = ev
  have HE : Hid ((if Pl.above (bnd X) X.DR X.ld = true then (2 : Int) else 1) = ev) := hev
  clear hev
  go_wp2
  refine bodyPost_ret (v := VE X) (by simp [results, Try.results11, go_sem, y0, y1, y2, y3, y4, y5, VE, HE.out]) rfl ⟨rfl, ?_⟩
  exact ((((((HB.out.setCell (Nat.le_refl _) _).setCell (Nat.le_refl _) _).setCell (Nat.le_refl _) _).setCell (Nat.le_refl _) _).setCell (Nat.le_refl _) _).setCell (Nat.le_refl _) _)

end Go.Proofs.Qxb6613846a
