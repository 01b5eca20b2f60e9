import Derived.Test.Qxb6613846aRows
import Derived.Test.Qxb6613846aIn
import Derived.WalkKit
import Derived.WalkSpells
import Derived.WalkLawsBesides
import Derived.LoopTactic
import Derived.RegionTactic
import Derived.Laws.Pointers
import Derived.Outline
import Derived.RowKit3
import Derived.Test.Qxb6613846aH1
import Derived.Deep.RegionHeld3
import Derived.Deep.DrawnRows
import Derived.Laws.StructEq
namespace Go.Proofs.Qxb6613846a
open Go.RowKit
attribute [local go_sem ↓] Go.wp_at_zero Go.wp_at_succ

/-- A verdict at a block. -/
structure V6 (X : Inp) (b dn : Nat) (al tm : Bool) (ev : Int) (w : World) : Prop where
  c0 : w.cell? ⟨b, 0, none⟩ = some (.int .i64 (dn : Int))
  c1 : w.cell? ⟨b, 1, none⟩ = some (.int .i64 X.K)
  c2 : w.cell? ⟨b, 2, none⟩ = some (.bool al)
  c3 : w.cell? ⟨b, 3, none⟩ = some (.int .i8 0)
  c4 : w.cell? ⟨b, 4, none⟩ = some (.bool tm)
  c5 : w.cell? ⟨b, 5, none⟩ = some (.int .i8 ev)
theorem V6.mono {X : Inp} {b dn : Nat} {al tm : Bool} {ev : Int} {w w' : World} (h : V6 X b dn al tm ev w) (k : Keeps w w') : V6 X b dn al tm ev w' :=
  ⟨k _ _ h.c0, k _ _ h.c1, k _ _ h.c2, k _ _ h.c3, k _ _ h.c4, k _ _ h.c5⟩
theorem v6_alloc (X : Inp) (dn : Nat) (al tm : Bool) (ev : Int) (w : World) : V6 X w.heap.size dn al tm ev (w.alloc (.cells #[.int .i64 (dn : Int), .int .i64 X.K, .bool al, .int .i8 0, .bool tm, .int .i8 ev] 33)) :=
  ⟨by simp, by simp, by simp, by simp, by simp, by simp⟩

/-- A copy of the scenario with another form. -/
theorem sc_alloc {X : Inp} {Y : Cp} {sb : Nat} {F : Int} {w : World} (h : Sc X Y sb F w) (G : Int) :
    Sc X Y w.heap.size G (w.alloc (.cells #[.int .i64 G, .int .i64 X.N, .int .i64 X.T, .int .i64 X.K, .int .i64 X.M, .int .i64 X.L, .slice Y.a1 X.li Y.c1, .slice Y.a2 X.lc Y.c2, .int .i64 X.R, .slice Y.a3 Y.n3 Y.c3, .slice Y.a4 Y.n4 Y.c4] 48)) :=
  ⟨by simp, by simp, by simp, by simp, by simp, by simp, by simp, by simp, by simp, by simp, by simp, h.i.mono (keeps_alloc _ _), h.c.mono (keeps_alloc _ _)⟩

/-- The calls of the law's body, the values under names. -/
structure Forms (X : Inp) (dn : Nat) (al tp te vt : Bool) (ev vv : Int) : Prop where
  h15 : ∀ W, Lies X W → Calls Try.prog 15 #[.slice X.ad X.ld X.cd] W fun e w' => e = .returned (.int .i64 (dn : Int)) ∧ Below W.heap.size W w'
  z : ∀ (Y : Cp) (sb : Nat) (a : Option Addr) (c b : Nat) (W : World), Sc X Y sb X.form W → Decs W a X.ld b 0 X.DP X.DV X.DR X.DS → Calls Try.prog 11 #[.pointer (some ⟨sb, 0, none⟩), .slice a X.ld c] W fun e w' => e = .returned (.agg #[.int .i64 (dn : Int), .int .i64 X.K, .bool al, .int .i8 0, .bool vt, .int .i8 vv]) ∧ Below W.heap.size W w'
  zp : ∀ (Y : Cp) (sb : Nat) (a : Option Addr) (c b : Nat) (W : World), Sc X Y sb 0 W → Decs W a X.ld b 0 X.DP X.DV X.DR X.DS → Calls Try.prog 11 #[.pointer (some ⟨sb, 0, none⟩), .slice a X.ld c] W fun e w' => e = .returned (.agg #[.int .i64 (dn : Int), .int .i64 X.K, .bool al, .int .i8 0, .bool tp, .int .i8 0]) ∧ Below W.heap.size W w'
  ze : ∀ (Y : Cp) (sb : Nat) (F : Int) (a : Option Addr) (c b : Nat) (W : World), (F == 0) = false → Sc X Y sb F W → Decs W a X.ld b 0 X.DP X.DV X.DR X.DS → Calls Try.prog 11 #[.pointer (some ⟨sb, 0, none⟩), .slice a X.ld c] W fun e w' => e = .returned (.agg #[.int .i64 (dn : Int), .int .i64 X.K, .bool al, .int .i8 0, .bool te, .int .i8 ev]) ∧ Below W.heap.size W w'
  ev0 : (ev == 0) = false
  wide : 1 ≤ X.R → tp = true → te = true
  vp : (X.form == 0) = true → vt = tp ∧ vv = 0
  ve : (X.form == 0) = false → vt = te ∧ vv = ev
theorem Forms.mk' (X : Inp) (hs : Short X) (hd : Dom X) (hw : Wf X) : ∃ (dn : Nat) (al tp te vt : Bool) (ev vv : Int), Forms X dn al tp te vt ev vv := by
  refine ⟨Pl.dcount X.DV X.ld, Pl.allIn X.I X.li X.DV X.ld, Pl.term (Pl.inR X.R X.R) X.CP X.lc X.DP X.DR X.ld X.N.toNat, Pl.term (Pl.inR 1 X.R) X.CP X.lc X.DP X.DR X.ld X.N.toNat,
    if (X.form == 0) = true then Pl.term (Pl.inR X.R X.R) X.CP X.lc X.DP X.DR X.ld X.N.toNat else Pl.term (Pl.inR 1 X.R) X.CP X.lc X.DP X.DR X.ld X.N.toNat, if Pl.above (bnd X) X.DR X.ld then 2 else 1,
    if (X.form == 0) = true then 0 else (if Pl.above (bnd X) X.DR X.ld then 2 else 1), ?_, ?_, ?_, ?_, ?_, ?_, ?_, ?_⟩
  · intro W hX
    exact (distinctValues_any _ _ _ _ _ _ _ _ _ _ hs.d hX.d).mono fun _ _ ⟨he, q, hw⟩ => ⟨he, drewN_below hw⟩
  · intro Y sb a c b W hS hD
    by_cases hf : (X.form == 0) = true
    · rw [if_pos hf, if_pos hf]
      have h0 : X.form = 0 := by simpa using hf
      exact (zzPlain_any X Y sb a c b W (h0 ▸ hS) hD hs hd hw).mono fun _ _ h => h
    · rw [if_neg hf, if_neg hf]
      exact (zzEarly_any X Y sb X.form a c b W hS hD hs hd hw (by simpa using hf)).mono fun _ _ h => h
  · intro Y sb a c b W hS hD
    exact (zzPlain_any X Y sb a c b W hS hD hs hd hw).mono fun _ _ h => h
  · intro Y sb F a c b W hF hS hD
    exact (zzEarly_any X Y sb F a c b W hS hD hs hd hw hF).mono fun _ _ h => h
  · split <;> rfl
  · intro hR h
    exact Pl.term_wider (Pl.inR_wider X.R hR) _ _ _ _ _ _ h
  · intro h
    rw [if_pos h, if_pos h]; exact ⟨rfl, rfl⟩
  · intro h
    have h' : ¬ (X.form == 0) = true := by rw [h]; decide
    rw [if_neg h', if_neg h']; exact ⟨rfl, rfl⟩

/-- The first verdict and the three copies. -/
structure Cops (X : Inp) (Y : Cp) (dn : Nat) (al vt : Bool) (vv : Int) (b : Nat) (w : World) : Prop where
  v : V6 X b dn al vt vv w
  p : Sc X Y (b + 1) 0 w
  e : Sc X Y (b + 1 + 1) 1 w
  k : Sc X Y (b + 1 + 1 + 1) 2 w
theorem Cops.mono {X : Inp} {Y : Cp} {dn : Nat} {al vt : Bool} {vv : Int} {b : Nat} {w w' : World} (h : Cops X Y dn al vt vv b w) (k : Keeps w w') : Cops X Y dn al vt vv b w' := ⟨h.v.mono k, h.p.mono k, h.e.mono k, h.k.mono k⟩
structure CopsW (X : Inp) (Y : Cp) (dn : Nat) (al vt : Bool) (vv : Int) (w w' : World) : Prop where
  c : Cops X Y dn al vt vv w.heap.size w'
  k : Keeps w w'
  b : Below w.heap.size w w'
theorem cops_mk {X : Inp} {Y : Cp} {sb : Nat} {F : Int} {w : World} (h : Sc X Y sb F w) (dn : Nat) (al vt : Bool) (vv : Int) :
    CopsW X Y dn al vt vv w ((((w.alloc (.cells #[.int .i64 (dn : Int), .int .i64 X.K, .bool al, .int .i8 0, .bool vt, .int .i8 vv] 33)).alloc (.cells #[.int .i64 0, .int .i64 X.N, .int .i64 X.T, .int .i64 X.K, .int .i64 X.M, .int .i64 X.L, .slice Y.a1 X.li Y.c1, .slice Y.a2 X.lc Y.c2, .int .i64 X.R, .slice Y.a3 Y.n3 Y.c3, .slice Y.a4 Y.n4 Y.c4] 48)).alloc (.cells #[.int .i64 1, .int .i64 X.N, .int .i64 X.T, .int .i64 X.K, .int .i64 X.M, .int .i64 X.L, .slice Y.a1 X.li Y.c1, .slice Y.a2 X.lc Y.c2, .int .i64 X.R, .slice Y.a3 Y.n3 Y.c3, .slice Y.a4 Y.n4 Y.c4] 48)).alloc (.cells #[.int .i64 2, .int .i64 X.N, .int .i64 X.T, .int .i64 X.K, .int .i64 X.M, .int .i64 X.L, .slice Y.a1 X.li Y.c1, .slice Y.a2 X.lc Y.c2, .int .i64 X.R, .slice Y.a3 Y.n3 Y.c3, .slice Y.a4 Y.n4 Y.c4] 48)) := by
  have e1 : (w.alloc (.cells #[.int .i64 (dn : Int), .int .i64 X.K, .bool al, .int .i8 0, .bool vt, .int .i8 vv] 33)).heap.size = w.heap.size + 1 := by simp
  have h1 := h.mono (keeps_alloc w (.cells #[.int .i64 (dn : Int), .int .i64 X.K, .bool al, .int .i8 0, .bool vt, .int .i8 vv] 33))
  have v1 := v6_alloc X dn al vt vv w
  have b1 : Below w.heap.size w (w.alloc (.cells #[.int .i64 (dn : Int), .int .i64 X.K, .bool al, .int .i8 0, .bool vt, .int .i8 vv] 33)) := (Below.refl _ _).alloc (Nat.le_refl _) _
  have k1 := keeps_alloc w (.cells #[.int .i64 (dn : Int), .int .i64 X.K, .bool al, .int .i8 0, .bool vt, .int .i8 vv] 33)
  generalize (w.alloc (.cells #[.int .i64 (dn : Int), .int .i64 X.K, .bool al, .int .i8 0, .bool vt, .int .i8 vv] 33)) = wa at *
  have e2 : (wa.alloc (.cells #[.int .i64 0, .int .i64 X.N, .int .i64 X.T, .int .i64 X.K, .int .i64 X.M, .int .i64 X.L, .slice Y.a1 X.li Y.c1, .slice Y.a2 X.lc Y.c2, .int .i64 X.R, .slice Y.a3 Y.n3 Y.c3, .slice Y.a4 Y.n4 Y.c4] 48)).heap.size = w.heap.size + 1 + 1 := by rw [← e1]; simp
  have p2 := sc_alloc h1 0
  rw [e1] at p2
  have h2 := h1.mono (keeps_alloc wa (.cells #[.int .i64 0, .int .i64 X.N, .int .i64 X.T, .int .i64 X.K, .int .i64 X.M, .int .i64 X.L, .slice Y.a1 X.li Y.c1, .slice Y.a2 X.lc Y.c2, .int .i64 X.R, .slice Y.a3 Y.n3 Y.c3, .slice Y.a4 Y.n4 Y.c4] 48))
  have v2 := v1.mono (keeps_alloc wa (.cells #[.int .i64 0, .int .i64 X.N, .int .i64 X.T, .int .i64 X.K, .int .i64 X.M, .int .i64 X.L, .slice Y.a1 X.li Y.c1, .slice Y.a2 X.lc Y.c2, .int .i64 X.R, .slice Y.a3 Y.n3 Y.c3, .slice Y.a4 Y.n4 Y.c4] 48))
  have b2 : Below w.heap.size w (wa.alloc (.cells #[.int .i64 0, .int .i64 X.N, .int .i64 X.T, .int .i64 X.K, .int .i64 X.M, .int .i64 X.L, .slice Y.a1 X.li Y.c1, .slice Y.a2 X.lc Y.c2, .int .i64 X.R, .slice Y.a3 Y.n3 Y.c3, .slice Y.a4 Y.n4 Y.c4] 48)) := b1.alloc (by omega) _
  have k2 := k1.trans (keeps_alloc wa (.cells #[.int .i64 0, .int .i64 X.N, .int .i64 X.T, .int .i64 X.K, .int .i64 X.M, .int .i64 X.L, .slice Y.a1 X.li Y.c1, .slice Y.a2 X.lc Y.c2, .int .i64 X.R, .slice Y.a3 Y.n3 Y.c3, .slice Y.a4 Y.n4 Y.c4] 48))
  generalize (wa.alloc (.cells #[.int .i64 0, .int .i64 X.N, .int .i64 X.T, .int .i64 X.K, .int .i64 X.M, .int .i64 X.L, .slice Y.a1 X.li Y.c1, .slice Y.a2 X.lc Y.c2, .int .i64 X.R, .slice Y.a3 Y.n3 Y.c3, .slice Y.a4 Y.n4 Y.c4] 48)) = wb at *
  have e3 : (wb.alloc (.cells #[.int .i64 1, .int .i64 X.N, .int .i64 X.T, .int .i64 X.K, .int .i64 X.M, .int .i64 X.L, .slice Y.a1 X.li Y.c1, .slice Y.a2 X.lc Y.c2, .int .i64 X.R, .slice Y.a3 Y.n3 Y.c3, .slice Y.a4 Y.n4 Y.c4] 48)).heap.size = w.heap.size + 1 + 1 + 1 := by rw [← e2]; simp
  have p3 := sc_alloc h2 1
  rw [e2] at p3
  have h3 := h2.mono (keeps_alloc wb (.cells #[.int .i64 1, .int .i64 X.N, .int .i64 X.T, .int .i64 X.K, .int .i64 X.M, .int .i64 X.L, .slice Y.a1 X.li Y.c1, .slice Y.a2 X.lc Y.c2, .int .i64 X.R, .slice Y.a3 Y.n3 Y.c3, .slice Y.a4 Y.n4 Y.c4] 48))
  have v3 := v2.mono (keeps_alloc wb (.cells #[.int .i64 1, .int .i64 X.N, .int .i64 X.T, .int .i64 X.K, .int .i64 X.M, .int .i64 X.L, .slice Y.a1 X.li Y.c1, .slice Y.a2 X.lc Y.c2, .int .i64 X.R, .slice Y.a3 Y.n3 Y.c3, .slice Y.a4 Y.n4 Y.c4] 48))
  have p23 := p2.mono (keeps_alloc wb (.cells #[.int .i64 1, .int .i64 X.N, .int .i64 X.T, .int .i64 X.K, .int .i64 X.M, .int .i64 X.L, .slice Y.a1 X.li Y.c1, .slice Y.a2 X.lc Y.c2, .int .i64 X.R, .slice Y.a3 Y.n3 Y.c3, .slice Y.a4 Y.n4 Y.c4] 48))
  have b3 : Below w.heap.size w (wb.alloc (.cells #[.int .i64 1, .int .i64 X.N, .int .i64 X.T, .int .i64 X.K, .int .i64 X.M, .int .i64 X.L, .slice Y.a1 X.li Y.c1, .slice Y.a2 X.lc Y.c2, .int .i64 X.R, .slice Y.a3 Y.n3 Y.c3, .slice Y.a4 Y.n4 Y.c4] 48)) := b2.alloc (by omega) _
  have k3 := k2.trans (keeps_alloc wb (.cells #[.int .i64 1, .int .i64 X.N, .int .i64 X.T, .int .i64 X.K, .int .i64 X.M, .int .i64 X.L, .slice Y.a1 X.li Y.c1, .slice Y.a2 X.lc Y.c2, .int .i64 X.R, .slice Y.a3 Y.n3 Y.c3, .slice Y.a4 Y.n4 Y.c4] 48))
  generalize (wb.alloc (.cells #[.int .i64 1, .int .i64 X.N, .int .i64 X.T, .int .i64 X.K, .int .i64 X.M, .int .i64 X.L, .slice Y.a1 X.li Y.c1, .slice Y.a2 X.lc Y.c2, .int .i64 X.R, .slice Y.a3 Y.n3 Y.c3, .slice Y.a4 Y.n4 Y.c4] 48)) = wd at *
  have p4 := sc_alloc h3 2
  rw [e3] at p4
  exact ⟨⟨v3.mono (keeps_alloc _ _), p23.mono (keeps_alloc _ _), p3.mono (keeps_alloc _ _), p4⟩, k3.trans (keeps_alloc _ _), b3.alloc (by omega) _⟩
set_option maxRecDepth 100000 in
set_option maxHeartbeats 8000000 in
theorem forms_any (X : Inp) (w : World) (hX : Lies X w) (hw : Wf X) :
    Calls Try.prog 4 #[.agg #[.int .i64 X.form, .int .i64 X.N, .int .i64 X.T, .int .i64 X.K, .int .i64 X.M, .int .i64 X.L, .slice X.ai X.li X.ci, .slice X.ac X.lc X.cc, .int .i64 X.R, .slice X.ao X.lo X.co, .slice X.aa X.la X.ca], .slice X.ad X.ld X.cd] w fun e w' => e = .returned (.bool true) ∧ Below w.heap.size w w' := by
  have HX0 : Hid (Lies X w) := hX
  have HW : Hid (Wf X) := hw
  clear hX hw
  go_enter Try.func4, Try.ntmps4
  go_wp2_with fail
  refine (bytes18B X _ (by exact HX0.out.mono (keeps_alloc _ _))).mono ?_
  rintro e w1 ⟨bb, rfl, hbb, hb1⟩
  have hk1 := keeps_of_below hb1
  have HX1 : Hid (Lies X w1) := (HX0.out.mono (keeps_alloc _ _)).mono hk1
  have HO1 : Hid (BoxAt X w.heap.size w1) := (boxAt_alloc X w).mono hk1
  have HB1 : Hid (Below w.heap.size w w1) := ((Below.refl _ _).alloc (Nat.le_refl _) _).trans (hb1.mono (by simp))
  clear hb1 hk1
  cases bb
  · go_wp2
    go_ret
    exact ⟨rfl, HB1.out⟩
  have hs := hbb rfl
  have HS : Hid (Short X) := hs
  clear hbb hs
  obtain ⟨x0, x1, x2, x3, x4, x5, x6, x7, x8, x9, x10⟩ := HO1.out
  have hl := World.block_lt_of_cell? _ _ x0
  dsimp only at hl
  go_wp2_with fail
  clear x0 x1 x2 x3 x4 x5 x6 x7 x8 x9 x10 hl
  refine (judgeBytesB X _ (by exact HX1.out) HS.out).mono ?_
  rintro e w2 ⟨r, rfl, hb2⟩
  have hk2 := keeps_of_below hb2
  have HX2 : Hid (Lies X w2) := HX1.out.mono hk2
  have HO2 : Hid (BoxAt X w.heap.size w2) := HO1.out.mono hk2
  have HB2 : Hid (Below w.heap.size w w2) := HB1.out.trans (hb2.mono (HB1.out.size))
  clear hb2 hk2
  by_cases hr : 1048576 < r
  · go_wp2
    go_ret
    exact ⟨rfl, HB2.out⟩
  obtain ⟨x0, x1, x2, x3, x4, x5, x6, x7, x8, x9, x10⟩ := HO2.out
  have hl := World.block_lt_of_cell? _ _ x0
  dsimp only at hl
  go_wp2_with fail
  clear x0 x1 x2 x3 x4 x5 x6 x7 x8 x9 x10 hl
  refine (domainB X _ (by exact HX2.out) HS.out).mono ?_
  rintro e w3 ⟨bb, rfl, hbb, hb3⟩
  have hk3 := keeps_of_below hb3
  have HX3 : Hid (Lies X w3) := HX2.out.mono hk3
  have HO3 : Hid (BoxAt X w.heap.size w3) := HO2.out.mono hk3
  have HB3 : Hid (Below w.heap.size w w3) := HB2.out.trans (hb3.mono (HB2.out.size))
  clear hb3 hk3
  cases bb
  · go_wp2
    go_ret
    exact ⟨rfl, HB3.out⟩
  have HD : Hid (Dom X) := hbb rfl
  clear hbb
  obtain ⟨x0, x1, x2, x3, x4, x5, x6, x7, x8, x9, x10⟩ := HO3.out
  have hl := World.block_lt_of_cell? _ _ x0
  dsimp only at hl
  go_wp2_with fail
  clear x0 x1 x2 x3 x4 x5 x6 x7 x8 x9 x10 hl
  refine (scenario_any X _ (by exact HX3.out) HS.out).mono ?_
  rintro e w4 ⟨⟨Y, sb, rfl, hsc⟩, hb4⟩
  have HC4 : Hid (Sc X Y sb X.form w4) := hsc
  clear hsc
  have hk4 := keeps_of_below hb4
  have HX4 : Hid (Lies X w4) := HX3.out.mono hk4
  have HO4 : Hid (BoxAt X w.heap.size w4) := HO3.out.mono hk4
  have HB4 : Hid (Below w.heap.size w w4) := HB3.out.trans (hb4.mono (HB3.out.size))
  clear hb4 hk4
  go_wp2_with fail
  refine (decisions_any _ _ _ _ _ _ _ _ _ _ HS.out.d (by exact HX4.out.d)).mono ?_
  rintro e w5 ⟨⟨da, dc, db, rfl, hde⟩, hb5⟩
  have HE5 : Hid (Decs w5 da X.ld db 0 X.DP X.DV X.DR X.DS) := hde
  have HC5 : Hid (Sc X Y sb X.form w5) := HC4.out.mono (keeps_of_below hb5)
  clear hde HC4
  have hk5 := keeps_of_below hb5
  have HX5 : Hid (Lies X w5) := HX4.out.mono hk5
  have HO5 : Hid (BoxAt X w.heap.size w5) := HO4.out.mono hk5
  have HB5 : Hid (Below w.heap.size w w5) := HB4.out.trans (hb5.mono (HB4.out.size))
  clear hb5 hk5
  obtain ⟨dn, al, tp, te, vt, ev, vv, hN⟩ := Forms.mk' X HS.out HD.out HW.out
  have HN : Hid (Forms X dn al tp te vt ev vv) := hN
  clear hN HS HD HW
  go_wp2_with fail
  refine (HN.out.z Y sb da dc db _ (by exact HC5.out) (by exact HE5.out)).mono ?_
  rintro e w6 ⟨rfl, hb6⟩
  have HC6 : Hid (Sc X Y sb X.form w6) := HC5.out.mono (keeps_of_below hb6)
  have HE6 : Hid (Decs w6 da X.ld db 0 X.DP X.DV X.DR X.DS) := HE5.out.mono (keeps_of_below hb6)
  have hk6 := keeps_of_below hb6
  have HX6 : Hid (Lies X w6) := HX5.out.mono hk6
  have HO6 : Hid (BoxAt X w.heap.size w6) := HO5.out.mono hk6
  have HB6 : Hid (Below w.heap.size w w6) := HB5.out.trans (hb6.mono (HB5.out.size))
  clear hb6 hk6
  clear HX5 HO5 HB5 HC5 HE5 HX4 HO4 HB4 HX3 HO3 HB3 HX2 HO2 HB2 HX1 HO1 HB1 HX0
  obtain ⟨y0, y1, y2, y3, y4, y5, y6, y7, y8, y9, y10, yi, yc⟩ := HC6.out
  have hsl := World.block_lt_of_cell? _ _ y0
  dsimp only at hsl
  clear yi yc
  have n0 : sb ≠ w6.heap.size := by omega
  have n1 : sb ≠ w6.heap.size + 1 := by omega
  have n2 : sb ≠ w6.heap.size + 1 + 1 := by omega
  have n3 : sb ≠ w6.heap.size + 1 + 1 + 1 := by omega
  have l1 : sb < w6.heap.size + 1 := by omega
  have l2 : sb < w6.heap.size + 1 + 1 := by omega
  have l3 : sb < w6.heap.size + 1 + 1 + 1 := by omega
  have HQ := cops_mk HC6.out dn al vt vv
  go_wp2_with fail
  clear y0 y1 y2 y3 y4 y5 y6 y7 y8 y9 y10 n0 n1 n2 n3 l1 l2 l3 hsl
  refine (HN.out.zp Y _ da dc db _ (by exact HQ.c.p) (by exact HE6.out.mono HQ.k)).mono ?_
  rintro e w7 ⟨rfl, hb7⟩
  have hk7 := keeps_of_below hb7
  have HC7 : Hid (Cops X Y dn al vt vv w6.heap.size w7) := HQ.c.mono hk7
  have HE7 : Hid (Decs w7 da X.ld db 0 X.DP X.DV X.DR X.DS) := (HE6.out.mono HQ.k).mono hk7
  have HX7 : Hid (Lies X w7) := (HX6.out.mono HQ.k).mono hk7
  have HO7 : Hid (BoxAt X w.heap.size w7) := (HO6.out.mono HQ.k).mono hk7
  have HB7 : Hid (Below w.heap.size w w7) := (HB6.out.trans (HQ.b.mono HB6.out.size)).trans (hb7.mono (Nat.le_trans HB6.out.size HQ.b.size))
  clear hb7 hk7 HQ HC6 HE6 HX6 HO6 HB6
  generalize w6.heap.size = vb at *
  clear w6
  go_wp2_with fail
  refine (HN.out.ze Y _ 1 da dc db _ (by decide) (by exact HC7.out.e.mono (keeps_alloc _ _)) (by exact HE7.out.mono (keeps_alloc _ _))).mono ?_
  rintro e w8 ⟨rfl, hb8⟩
  have hk8 := (keeps_alloc w7 (.cells #[.int .i64 (dn : Int), .int .i64 X.K, .bool al, .int .i8 0, .bool tp, .int .i8 0] 33)).trans (keeps_of_below hb8)
  have HC8 : Hid (Cops X Y dn al vt vv vb w8) := HC7.out.mono hk8
  have HE8 : Hid (Decs w8 da X.ld db 0 X.DP X.DV X.DR X.DS) := HE7.out.mono hk8
  have HX8 : Hid (Lies X w8) := HX7.out.mono hk8
  have HO8 : Hid (BoxAt X w.heap.size w8) := HO7.out.mono hk8
  have HB8 : Hid (Below w.heap.size w w8) := (HB7.out.alloc HB7.out.size (.cells #[.int .i64 (dn : Int), .int .i64 X.K, .bool al, .int .i8 0, .bool tp, .int .i8 0] 33)).trans (hb8.mono (by have := HB7.out.size; simp; omega))
  have HV8 : Hid (V6 X w7.heap.size dn al tp 0 w8) := (v6_alloc X dn al tp 0 w7).mono (keeps_of_below hb8)
  clear hb8 hk8 HC7 HE7 HX7 HO7 HB7
  generalize w7.heap.size = pb at *
  clear w7
  go_wp2_with fail
  refine (HN.out.ze Y _ 2 da dc db _ (by decide) (by exact HC8.out.k.mono (keeps_alloc _ _)) (by exact HE8.out.mono (keeps_alloc _ _))).mono ?_
  rintro e w9 ⟨rfl, hb9⟩
  have hk9 := (keeps_alloc w8 (.cells #[.int .i64 (dn : Int), .int .i64 X.K, .bool al, .int .i8 0, .bool te, .int .i8 ev] 33)).trans (keeps_of_below hb9)
  have HC9 : Hid (Cops X Y dn al vt vv vb w9) := HC8.out.mono hk9
  have HE9 : Hid (Decs w9 da X.ld db 0 X.DP X.DV X.DR X.DS) := HE8.out.mono hk9
  have HX9 : Hid (Lies X w9) := HX8.out.mono hk9
  have HO9 : Hid (BoxAt X w.heap.size w9) := HO8.out.mono hk9
  have HB9 : Hid (Below w.heap.size w w9) := (HB8.out.alloc HB8.out.size (.cells #[.int .i64 (dn : Int), .int .i64 X.K, .bool al, .int .i8 0, .bool te, .int .i8 ev] 33)).trans (hb9.mono (by have := HB8.out.size; simp; omega))
  have HV9 : Hid (V6 X w8.heap.size dn al te ev w9) := (v6_alloc X dn al te ev w8).mono (keeps_of_below hb9)
  have HP9 : Hid (V6 X pb dn al tp 0 w9) := HV8.out.mono hk9
  clear hb9 hk9 HC8 HE8 HX8 HO8 HB8 HV8 HE9
  generalize w8.heap.size = eb at *
  clear w8
  obtain ⟨x0, -, -, -, -, -, -, -, x8, -, -⟩ := HO9.out
  obtain ⟨a0, a1, a2, a3, a4, a5⟩ := HC9.out.v
  obtain ⟨p0, p1, p2, p3, p4, p5⟩ := HP9.out
  obtain ⟨e0, e1, e2, e3, e4, e5⟩ := HV9.out
  have hl := World.block_lt_of_cell? _ _ x0
  have hla := World.block_lt_of_cell? _ _ a0
  have hlp := World.block_lt_of_cell? _ _ p0
  have hle := World.block_lt_of_cell? _ _ e0
  dsimp only at hl hla hlp hle
  have n0 : w.heap.size ≠ w9.heap.size := by omega
  have n1 : vb ≠ w9.heap.size := by omega
  have n2 : pb ≠ w9.heap.size := by omega
  have n3 : eb ≠ w9.heap.size := by omega
  have l0 : w.heap.size < w9.heap.size + 1 := by omega
  have l1 : vb < w9.heap.size + 1 := by omega
  have l2 : pb < w9.heap.size + 1 := by omega
  have l3 : eb < w9.heap.size + 1 := by omega
  have hev := HN.out.ev0
  have hwide := HN.out.wide
  have hvp := HN.out.vp
  have hve := HN.out.ve
  cases hf : (X.form == 0)
  · obtain ⟨hv1, hv2⟩ := hve hf
    obtain rfl := hv1.symm
    obtain rfl := hv2.symm
    clear hve hvp
    by_cases hR : 1 ≤ X.R
    · cases tp
      · clear hwide
        have hS0 : (w9.alloc (.cells #[.int .i64 (dn : Int), .int .i64 X.K, .bool al, .int .i8 0, .bool te, .int .i8 ev] 33)).cell? ⟨pb, 0, none⟩ = some (.int .i64 (dn : Int)) := keeps_alloc _ _ _ _ p0
        have HXA : Hid (Lies X (w9.alloc (.cells #[.int .i64 (dn : Int), .int .i64 X.K, .bool al, .int .i8 0, .bool te, .int .i8 ev] 33))) := HX9.out.mono (keeps_alloc _ _)
        have HBA : Hid (Below w.heap.size w (w9.alloc (.cells #[.int .i64 (dn : Int), .int .i64 X.K, .bool al, .int .i8 0, .bool te, .int .i8 ev] 33))) := HB9.out.alloc HB9.out.size (.cells #[.int .i64 (dn : Int), .int .i64 X.K, .bool al, .int .i8 0, .bool te, .int .i8 ev] 33)
        have hlA : w.heap.size ≤ (w9.alloc (.cells #[.int .i64 (dn : Int), .int .i64 X.K, .bool al, .int .i8 0, .bool te, .int .i8 ev] 33)).heap.size := HBA.out.size
        go_wp2
        go_region_held3 (fun w' => w'.cell? ⟨pb, 0, none⟩ = some (.int .i64 (dn : Int)))
          (first | (go_keep; done))
          (first
            | (go_at_call 15; refine (HN.out.h15 _ (by exact HXA.out.mono (keeps_drew _))).mono ?_; rintro e wz ⟨rfl, hbz⟩; have kz := keeps_of_below hbz; have hSz := kz _ _ ((keeps_drew _) _ _ hS0); have HBz : Hid (Below w.heap.size w wz) := (HBA.out.drew).trans (hbz.mono (by simpa using hlA)); clear kz hbz))
        go_wp2
        go_ret
        exact ⟨by simp, HBz.out⟩
      · obtain rfl := hwide hR rfl
        clear hwide
        have hS0 : (w9.alloc (.cells #[.int .i64 (dn : Int), .int .i64 X.K, .bool al, .int .i8 0, .bool true, .int .i8 ev] 33)).cell? ⟨pb, 0, none⟩ = some (.int .i64 (dn : Int)) := keeps_alloc _ _ _ _ p0
        have HXA : Hid (Lies X (w9.alloc (.cells #[.int .i64 (dn : Int), .int .i64 X.K, .bool al, .int .i8 0, .bool true, .int .i8 ev] 33))) := HX9.out.mono (keeps_alloc _ _)
        have HBA : Hid (Below w.heap.size w (w9.alloc (.cells #[.int .i64 (dn : Int), .int .i64 X.K, .bool al, .int .i8 0, .bool true, .int .i8 ev] 33))) := HB9.out.alloc HB9.out.size (.cells #[.int .i64 (dn : Int), .int .i64 X.K, .bool al, .int .i8 0, .bool true, .int .i8 ev] 33)
        have hlA : w.heap.size ≤ (w9.alloc (.cells #[.int .i64 (dn : Int), .int .i64 X.K, .bool al, .int .i8 0, .bool true, .int .i8 ev] 33)).heap.size := HBA.out.size
        go_wp2
        go_region_held3 (fun w' => w'.cell? ⟨pb, 0, none⟩ = some (.int .i64 (dn : Int)))
          (first | (go_keep; done))
          (first
            | (go_at_call 15; refine (HN.out.h15 _ (by exact HXA.out.mono (keeps_drew _))).mono ?_; rintro e wz ⟨rfl, hbz⟩; have kz := keeps_of_below hbz; have hSz := kz _ _ ((keeps_drew _) _ _ hS0); have HBz : Hid (Below w.heap.size w wz) := (HBA.out.drew).trans (hbz.mono (by simpa using hlA)); clear kz hbz))
        go_wp2
        go_ret
        exact ⟨by simp, HBz.out⟩
    · clear hwide
      have hS0 : (w9.alloc (.cells #[.int .i64 (dn : Int), .int .i64 X.K, .bool al, .int .i8 0, .bool te, .int .i8 ev] 33)).cell? ⟨pb, 0, none⟩ = some (.int .i64 (dn : Int)) := keeps_alloc _ _ _ _ p0
      have HXA : Hid (Lies X (w9.alloc (.cells #[.int .i64 (dn : Int), .int .i64 X.K, .bool al, .int .i8 0, .bool te, .int .i8 ev] 33))) := HX9.out.mono (keeps_alloc _ _)
      have HBA : Hid (Below w.heap.size w (w9.alloc (.cells #[.int .i64 (dn : Int), .int .i64 X.K, .bool al, .int .i8 0, .bool te, .int .i8 ev] 33))) := HB9.out.alloc HB9.out.size (.cells #[.int .i64 (dn : Int), .int .i64 X.K, .bool al, .int .i8 0, .bool te, .int .i8 ev] 33)
      have hlA : w.heap.size ≤ (w9.alloc (.cells #[.int .i64 (dn : Int), .int .i64 X.K, .bool al, .int .i8 0, .bool te, .int .i8 ev] 33)).heap.size := HBA.out.size
      go_wp2
      go_region_held3 (fun w' => w'.cell? ⟨pb, 0, none⟩ = some (.int .i64 (dn : Int)))
        (first | (go_keep; done))
        (first
          | (go_at_call 15; refine (HN.out.h15 _ (by exact HXA.out.mono (keeps_drew _))).mono ?_; rintro e wz ⟨rfl, hbz⟩; have kz := keeps_of_below hbz; have hSz := kz _ _ ((keeps_drew _) _ _ hS0); have HBz : Hid (Below w.heap.size w wz) := (HBA.out.drew).trans (hbz.mono (by simpa using hlA)); clear kz hbz))
      go_wp2
      go_ret
      exact ⟨by simp, HBz.out⟩
  · obtain ⟨hv1, rfl⟩ := hvp hf
    obtain rfl := hv1.symm
    clear hve hvp
    by_cases hR : 1 ≤ X.R
    · cases tp
      · clear hwide
        have hS0 : (w9.alloc (.cells #[.int .i64 (dn : Int), .int .i64 X.K, .bool al, .int .i8 0, .bool te, .int .i8 ev] 33)).cell? ⟨pb, 0, none⟩ = some (.int .i64 (dn : Int)) := keeps_alloc _ _ _ _ p0
        have HXA : Hid (Lies X (w9.alloc (.cells #[.int .i64 (dn : Int), .int .i64 X.K, .bool al, .int .i8 0, .bool te, .int .i8 ev] 33))) := HX9.out.mono (keeps_alloc _ _)
        have HBA : Hid (Below w.heap.size w (w9.alloc (.cells #[.int .i64 (dn : Int), .int .i64 X.K, .bool al, .int .i8 0, .bool te, .int .i8 ev] 33))) := HB9.out.alloc HB9.out.size (.cells #[.int .i64 (dn : Int), .int .i64 X.K, .bool al, .int .i8 0, .bool te, .int .i8 ev] 33)
        have hlA : w.heap.size ≤ (w9.alloc (.cells #[.int .i64 (dn : Int), .int .i64 X.K, .bool al, .int .i8 0, .bool te, .int .i8 ev] 33)).heap.size := HBA.out.size
        go_wp2
        go_region_held3 (fun w' => w'.cell? ⟨pb, 0, none⟩ = some (.int .i64 (dn : Int)))
          (first | (go_keep; done))
          (first
            | (go_at_call 15; refine (HN.out.h15 _ (by exact HXA.out.mono (keeps_drew _))).mono ?_; rintro e wz ⟨rfl, hbz⟩; have kz := keeps_of_below hbz; have hSz := kz _ _ ((keeps_drew _) _ _ hS0); have HBz : Hid (Below w.heap.size w wz) := (HBA.out.drew).trans (hbz.mono (by simpa using hlA)); clear kz hbz))
        go_wp2
        go_ret
        exact ⟨by simp, HBz.out⟩
      · obtain rfl := hwide hR rfl
        clear hwide
        have hS0 : (w9.alloc (.cells #[.int .i64 (dn : Int), .int .i64 X.K, .bool al, .int .i8 0, .bool true, .int .i8 ev] 33)).cell? ⟨pb, 0, none⟩ = some (.int .i64 (dn : Int)) := keeps_alloc _ _ _ _ p0
        have HXA : Hid (Lies X (w9.alloc (.cells #[.int .i64 (dn : Int), .int .i64 X.K, .bool al, .int .i8 0, .bool true, .int .i8 ev] 33))) := HX9.out.mono (keeps_alloc _ _)
        have HBA : Hid (Below w.heap.size w (w9.alloc (.cells #[.int .i64 (dn : Int), .int .i64 X.K, .bool al, .int .i8 0, .bool true, .int .i8 ev] 33))) := HB9.out.alloc HB9.out.size (.cells #[.int .i64 (dn : Int), .int .i64 X.K, .bool al, .int .i8 0, .bool true, .int .i8 ev] 33)
        have hlA : w.heap.size ≤ (w9.alloc (.cells #[.int .i64 (dn : Int), .int .i64 X.K, .bool al, .int .i8 0, .bool true, .int .i8 ev] 33)).heap.size := HBA.out.size
        go_wp2
        go_region_held3 (fun w' => w'.cell? ⟨pb, 0, none⟩ = some (.int .i64 (dn : Int)))
          (first | (go_keep; done))
          (first
            | (go_at_call 15; refine (HN.out.h15 _ (by exact HXA.out.mono (keeps_drew _))).mono ?_; rintro e wz ⟨rfl, hbz⟩; have kz := keeps_of_below hbz; have hSz := kz _ _ ((keeps_drew _) _ _ hS0); have HBz : Hid (Below w.heap.size w wz) := (HBA.out.drew).trans (hbz.mono (by simpa using hlA)); clear kz hbz))
        go_wp2
        go_ret
        exact ⟨by simp, HBz.out⟩
    · clear hwide
      have hS0 : (w9.alloc (.cells #[.int .i64 (dn : Int), .int .i64 X.K, .bool al, .int .i8 0, .bool te, .int .i8 ev] 33)).cell? ⟨pb, 0, none⟩ = some (.int .i64 (dn : Int)) := keeps_alloc _ _ _ _ p0
      have HXA : Hid (Lies X (w9.alloc (.cells #[.int .i64 (dn : Int), .int .i64 X.K, .bool al, .int .i8 0, .bool te, .int .i8 ev] 33))) := HX9.out.mono (keeps_alloc _ _)
      have HBA : Hid (Below w.heap.size w (w9.alloc (.cells #[.int .i64 (dn : Int), .int .i64 X.K, .bool al, .int .i8 0, .bool te, .int .i8 ev] 33))) := HB9.out.alloc HB9.out.size (.cells #[.int .i64 (dn : Int), .int .i64 X.K, .bool al, .int .i8 0, .bool te, .int .i8 ev] 33)
      have hlA : w.heap.size ≤ (w9.alloc (.cells #[.int .i64 (dn : Int), .int .i64 X.K, .bool al, .int .i8 0, .bool te, .int .i8 ev] 33)).heap.size := HBA.out.size
      go_wp2
      go_region_held3 (fun w' => w'.cell? ⟨pb, 0, none⟩ = some (.int .i64 (dn : Int)))
        (first | (go_keep; done))
        (first
          | (go_at_call 15; refine (HN.out.h15 _ (by exact HXA.out.mono (keeps_drew _))).mono ?_; rintro e wz ⟨rfl, hbz⟩; have kz := keeps_of_below hbz; have hSz := kz _ _ ((keeps_drew _) _ _ hS0); have HBz : Hid (Below w.heap.size w wz) := (HBA.out.drew).trans (hbz.mono (by simpa using hlA)); clear kz hbz))
      go_wp2
      go_ret
      exact ⟨by simp, HBz.out⟩

end Go.Proofs.Qxb6613846a
