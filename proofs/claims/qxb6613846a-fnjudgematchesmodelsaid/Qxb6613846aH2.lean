import Derived.Test.Qxb6613846aRows
import Derived.Test.Qxb6613846aIn
import Derived.WalkKit
import Derived.WalkSpells
import Derived.WalkLawsBesides
import Derived.LoopTactic
import Derived.RegionTactic
import Derived.Laws.Pointers
import Derived.Outline
import Derived.RowKit3
import Derived.Test.Qxb6613846aH1
import Derived.Deep.RegionHeld3
import Derived.Deep.DrawnRows
namespace Go.Proofs.Qxb6613846a
open Go.RowKit
attribute [local go_sem ↓] Go.wp_at_zero Go.wp_at_succ

theorem keep17 {W W' : World} {b vb : Nat} {u0 u1 u2 u3 u4 u5 q0 q1 q2 q3 q4 q5 q6 q7 q8 q9 q10 : Value} (k : Keeps W W') (h : W.cell? ⟨vb, 0, none⟩ = some u0 ∧ W.cell? ⟨vb, 1, none⟩ = some u1 ∧ W.cell? ⟨vb, 2, none⟩ = some u2 ∧ W.cell? ⟨vb, 3, none⟩ = some u3 ∧ W.cell? ⟨vb, 4, none⟩ = some u4 ∧ W.cell? ⟨vb, 5, none⟩ = some u5 ∧ W.cell? ⟨b, 0, none⟩ = some q0 ∧ W.cell? ⟨b, 1, none⟩ = some q1 ∧ W.cell? ⟨b, 2, none⟩ = some q2 ∧ W.cell? ⟨b, 3, none⟩ = some q3 ∧ W.cell? ⟨b, 4, none⟩ = some q4 ∧ W.cell? ⟨b, 5, none⟩ = some q5 ∧ W.cell? ⟨b, 6, none⟩ = some q6 ∧ W.cell? ⟨b, 7, none⟩ = some q7 ∧ W.cell? ⟨b, 8, none⟩ = some q8 ∧ W.cell? ⟨b, 9, none⟩ = some q9 ∧ W.cell? ⟨b, 10, none⟩ = some q10) : W'.cell? ⟨vb, 0, none⟩ = some u0 ∧ W'.cell? ⟨vb, 1, none⟩ = some u1 ∧ W'.cell? ⟨vb, 2, none⟩ = some u2 ∧ W'.cell? ⟨vb, 3, none⟩ = some u3 ∧ W'.cell? ⟨vb, 4, none⟩ = some u4 ∧ W'.cell? ⟨vb, 5, none⟩ = some u5 ∧ W'.cell? ⟨b, 0, none⟩ = some q0 ∧ W'.cell? ⟨b, 1, none⟩ = some q1 ∧ W'.cell? ⟨b, 2, none⟩ = some q2 ∧ W'.cell? ⟨b, 3, none⟩ = some q3 ∧ W'.cell? ⟨b, 4, none⟩ = some q4 ∧ W'.cell? ⟨b, 5, none⟩ = some q5 ∧ W'.cell? ⟨b, 6, none⟩ = some q6 ∧ W'.cell? ⟨b, 7, none⟩ = some q7 ∧ W'.cell? ⟨b, 8, none⟩ = some q8 ∧ W'.cell? ⟨b, 9, none⟩ = some q9 ∧ W'.cell? ⟨b, 10, none⟩ = some q10 := by
  obtain ⟨h0, h1, h2, h3, h4, h5, h6, h7, h8, h9, h10, h11, h12, h13, h14, h15, h16⟩ := h
  exact ⟨k _ _ h0, k _ _ h1, k _ _ h2, k _ _ h3, k _ _ h4, k _ _ h5, k _ _ h6, k _ _ h7, k _ _ h8, k _ _ h9, k _ _ h10, k _ _ h11, k _ _ h12, k _ _ h13, k _ _ h14, k _ _ h15, k _ _ h16⟩

/-- The last line of the law, the values under names. -/
structure Ends (X : Inp) (w6 : World) (dn : Nat) (al tm : Bool) (plain : Bool) : Prop where
  h15 : ∀ W, Lies X W → Calls Try.prog 15 #[.slice X.ad X.ld X.cd] W fun e w' => e = .returned (.int .i64 (dn : Int)) ∧ Below W.heap.size W w'
  h16 : ∀ W, Lies X W → Calls Try.prog 16 #[.slice X.ad X.ld X.cd, .slice X.ai X.li X.ci] W fun e w' => e = .returned (.bool al) ∧ Below W.heap.size W w'
  h17 : ∀ W, Lies X W → Calls Try.prog 17 #[.agg #[.int .i64 X.form, .int .i64 X.N, .int .i64 X.T, .int .i64 X.K, .int .i64 X.M, .int .i64 X.L, .slice X.ai X.li X.ci, .slice X.ac X.lc X.cc, .int .i64 X.R, .slice X.ao X.lo X.co, .slice X.aa X.la X.ca], .slice X.ad X.ld X.cd, .bool plain] W fun e w' => e = .returned (.bool tm) ∧ Below W.heap.size W w'
theorem Ends.mk' (X : Inp) (w6 : World) (plain : Bool) (ok : Int → Bool) (hok : Pl.okOf plain X.R = ok) (hs : Short X) (hd : Dom X) :
    Ends X w6 (Pl.dcount X.DV X.ld) (Pl.allIn X.I X.li X.DV X.ld) (Pl.term ok X.CP X.lc X.DP X.DR X.ld X.N.toNat) plain := by
  refine ⟨fun W hX => ?_, fun W hX => ?_, fun W hX => ?_⟩
  · exact (distinctValues_any _ _ _ _ _ _ _ _ _ _ hs.d hX.d).mono fun _ _ ⟨he, q, hw⟩ => ⟨he, drewN_below hw⟩
  · exact (allInputs_any _ _ _ _ _ _ _ _ _ _ _ _ _ _ _ _ hs.d hs.i hX.d hX.i).mono fun _ _ ⟨he, q, hw⟩ => ⟨he, drewN_below hw⟩
  · subst hok
    exact (terminatedB X plain W hX hs hd).mono fun _ _ ⟨he, hb⟩ => ⟨he, hb⟩
set_option maxRecDepth 100000 in
set_option maxHeartbeats 8000000 in
theorem matches_any (X : Inp) (w : World) (hX : Lies X w) (hw : Wf X) :
    Calls Try.prog 3 #[.agg #[.int .i64 X.form, .int .i64 X.N, .int .i64 X.T, .int .i64 X.K, .int .i64 X.M, .int .i64 X.L, .slice X.ai X.li X.ci, .slice X.ac X.lc X.cc, .int .i64 X.R, .slice X.ao X.lo X.co, .slice X.aa X.la X.ca], .slice X.ad X.ld X.cd] w fun e w' => e = .returned (.bool true) ∧ Below w.heap.size w w' := by
  have HX0 : Hid (Lies X w) := hX
  have HW : Hid (Wf X) := hw
  clear hX hw
  go_enter Try.func3, Try.ntmps3
  go_wp2_with fail
  refine (bytes8B X _ (by exact HX0.out.mono (keeps_alloc _ _))).mono ?_
  rintro e w1 ⟨bb, rfl, hbb, hb1⟩
  have hk1 := keeps_of_below hb1
  have HX1 : Hid (Lies X w1) := (HX0.out.mono (keeps_alloc _ _)).mono hk1
  have HO1 : Hid (BoxAt X w.heap.size w1) := (boxAt_alloc X w).mono hk1
  have HB1 : Hid (Below w.heap.size w w1) := ((Below.refl _ _).alloc (Nat.le_refl _) _).trans (hb1.mono (by simp))
  clear hb1 hk1
  cases bb
  · go_wp2
    go_ret
    exact ⟨rfl, HB1.out⟩
  have hs := hbb rfl
  have HS : Hid (Short X) := hs
  clear hbb hs
  obtain ⟨x0, x1, x2, x3, x4, x5, x6, x7, x8, x9, x10⟩ := HO1.out
  have hl := World.block_lt_of_cell? _ _ x0
  dsimp only at hl
  go_wp2_with fail
  clear x0 x1 x2 x3 x4 x5 x6 x7 x8 x9 x10 hl
  refine (judgeBytesB X _ (by exact HX1.out) HS.out).mono ?_
  rintro e w2 ⟨r, rfl, hb2⟩
  have hk2 := keeps_of_below hb2
  have HX2 : Hid (Lies X w2) := HX1.out.mono hk2
  have HO2 : Hid (BoxAt X w.heap.size w2) := HO1.out.mono hk2
  have HB2 : Hid (Below w.heap.size w w2) := HB1.out.trans (hb2.mono (HB1.out.size))
  clear hb2 hk2
  by_cases hr : 1048576 < r
  · go_wp2
    go_ret
    exact ⟨rfl, HB2.out⟩
  obtain ⟨x0, x1, x2, x3, x4, x5, x6, x7, x8, x9, x10⟩ := HO2.out
  have hl := World.block_lt_of_cell? _ _ x0
  dsimp only at hl
  go_wp2_with fail
  clear x0 x1 x2 x3 x4 x5 x6 x7 x8 x9 x10 hl
  refine (domainB X _ (by exact HX2.out) HS.out).mono ?_
  rintro e w3 ⟨bb, rfl, hbb, hb3⟩
  have hk3 := keeps_of_below hb3
  have HX3 : Hid (Lies X w3) := HX2.out.mono hk3
  have HO3 : Hid (BoxAt X w.heap.size w3) := HO2.out.mono hk3
  have HB3 : Hid (Below w.heap.size w w3) := HB2.out.trans (hb3.mono (HB2.out.size))
  clear hb3 hk3
  cases bb
  · go_wp2
    go_ret
    exact ⟨rfl, HB3.out⟩
  have HD : Hid (Dom X) := hbb rfl
  clear hbb
  obtain ⟨x0, x1, x2, x3, x4, x5, x6, x7, x8, x9, x10⟩ := HO3.out
  have hl := World.block_lt_of_cell? _ _ x0
  dsimp only at hl
  go_wp2_with fail
  clear x0 x1 x2 x3 x4 x5 x6 x7 x8 x9 x10 hl
  refine (scenario_any X _ (by exact HX3.out) HS.out).mono ?_
  rintro e w4 ⟨⟨Y, sb, rfl, hsc⟩, hb4⟩
  have HC4 : Hid (Sc X Y sb X.form w4) := hsc
  clear hsc
  have hk4 := keeps_of_below hb4
  have HX4 : Hid (Lies X w4) := HX3.out.mono hk4
  have HO4 : Hid (BoxAt X w.heap.size w4) := HO3.out.mono hk4
  have HB4 : Hid (Below w.heap.size w w4) := HB3.out.trans (hb4.mono (HB3.out.size))
  clear hb4 hk4
  go_wp2_with fail
  refine (decisions_any _ _ _ _ _ _ _ _ _ _ HS.out.d (by exact HX4.out.d)).mono ?_
  rintro e w5 ⟨⟨da, dc, db, rfl, hde⟩, hb5⟩
  have HE5 : Hid (Decs w5 da X.ld db 0 X.DP X.DV X.DR X.DS) := hde
  have HC5 : Hid (Sc X Y sb X.form w5) := HC4.out.mono (keeps_of_below hb5)
  clear hde HC4
  have hk5 := keeps_of_below hb5
  have HX5 : Hid (Lies X w5) := HX4.out.mono hk5
  have HO5 : Hid (BoxAt X w.heap.size w5) := HO4.out.mono hk5
  have HB5 : Hid (Below w.heap.size w w5) := HB4.out.trans (hb5.mono (HB4.out.size))
  clear hb5 hk5
  by_cases hform : X.form = 0
  · have hf : (X.form == 0) = true := by rw [hform]; rfl
    have hsc : Sc X Y sb 0 w5 := hform ▸ HC5.out
    have HC : Hid (Sc X Y sb 0 w5) := hsc
    clear hsc hform
    go_wp2_with fail
    refine (zzPlain_any X Y sb da dc db _ (by exact HC.out) (by exact HE5.out) HS.out HD.out HW.out).mono ?_
    rintro e w6 ⟨rfl, hb6⟩
    have hk6 := keeps_of_below hb6
    have HX6 : Hid (Lies X w6) := HX5.out.mono hk6
    have HO6 : Hid (BoxAt X w.heap.size w6) := HO5.out.mono hk6
    have HB6 : Hid (Below w.heap.size w w6) := HB5.out.trans (hb6.mono (HB5.out.size))
    clear hb6 hk6
    unfold VP
    have HN : Hid (Ends X w6 (Pl.dcount X.DV X.ld) (Pl.allIn X.I X.li X.DV X.ld) (Pl.term (Pl.inR X.R X.R) X.CP X.lc X.DP X.DR X.ld X.N.toNat) true) := Ends.mk' X w6 true _ (Pl.okOf_true X.R) HS.out HD.out
    generalize Pl.dcount X.DV X.ld = dn at *
    generalize Pl.allIn X.I X.li X.DV X.ld = al at *
    generalize Pl.term (Pl.inR X.R X.R) X.CP X.lc X.DP X.DR X.ld X.N.toNat = tm at *
    obtain ⟨x0, x1, x2, x3, x4, x5, x6, x7, x8, x9, x10⟩ := HO6.out
    have hl := World.block_lt_of_cell? _ _ x0
    dsimp only at hl
    go_wp2
    have hS0 : (w6.alloc (.cells #[.int .i64 (dn : Int), .int .i64 X.K, .bool al, .int .i8 0, .bool tm, .int .i8 0] 33)).cell? ⟨w6.heap.size, 0, none⟩ = some (.int .i64 (dn : Int)) ∧ (w6.alloc (.cells #[.int .i64 (dn : Int), .int .i64 X.K, .bool al, .int .i8 0, .bool tm, .int .i8 0] 33)).cell? ⟨w6.heap.size, 1, none⟩ = some (.int .i64 X.K) ∧ (w6.alloc (.cells #[.int .i64 (dn : Int), .int .i64 X.K, .bool al, .int .i8 0, .bool tm, .int .i8 0] 33)).cell? ⟨w6.heap.size, 2, none⟩ = some (.bool al) ∧ (w6.alloc (.cells #[.int .i64 (dn : Int), .int .i64 X.K, .bool al, .int .i8 0, .bool tm, .int .i8 0] 33)).cell? ⟨w6.heap.size, 3, none⟩ = some (.int .i8 0) ∧ (w6.alloc (.cells #[.int .i64 (dn : Int), .int .i64 X.K, .bool al, .int .i8 0, .bool tm, .int .i8 0] 33)).cell? ⟨w6.heap.size, 4, none⟩ = some (.bool tm) ∧ (w6.alloc (.cells #[.int .i64 (dn : Int), .int .i64 X.K, .bool al, .int .i8 0, .bool tm, .int .i8 0] 33)).cell? ⟨w6.heap.size, 5, none⟩ = some (.int .i8 0) ∧ (w6.alloc (.cells #[.int .i64 (dn : Int), .int .i64 X.K, .bool al, .int .i8 0, .bool tm, .int .i8 0] 33)).cell? ⟨w.heap.size, 0, none⟩ = some (.int .i64 X.form) ∧ (w6.alloc (.cells #[.int .i64 (dn : Int), .int .i64 X.K, .bool al, .int .i8 0, .bool tm, .int .i8 0] 33)).cell? ⟨w.heap.size, 1, none⟩ = some (.int .i64 X.N) ∧ (w6.alloc (.cells #[.int .i64 (dn : Int), .int .i64 X.K, .bool al, .int .i8 0, .bool tm, .int .i8 0] 33)).cell? ⟨w.heap.size, 2, none⟩ = some (.int .i64 X.T) ∧ (w6.alloc (.cells #[.int .i64 (dn : Int), .int .i64 X.K, .bool al, .int .i8 0, .bool tm, .int .i8 0] 33)).cell? ⟨w.heap.size, 3, none⟩ = some (.int .i64 X.K) ∧ (w6.alloc (.cells #[.int .i64 (dn : Int), .int .i64 X.K, .bool al, .int .i8 0, .bool tm, .int .i8 0] 33)).cell? ⟨w.heap.size, 4, none⟩ = some (.int .i64 X.M) ∧ (w6.alloc (.cells #[.int .i64 (dn : Int), .int .i64 X.K, .bool al, .int .i8 0, .bool tm, .int .i8 0] 33)).cell? ⟨w.heap.size, 5, none⟩ = some (.int .i64 X.L) ∧ (w6.alloc (.cells #[.int .i64 (dn : Int), .int .i64 X.K, .bool al, .int .i8 0, .bool tm, .int .i8 0] 33)).cell? ⟨w.heap.size, 6, none⟩ = some (.slice X.ai X.li X.ci) ∧ (w6.alloc (.cells #[.int .i64 (dn : Int), .int .i64 X.K, .bool al, .int .i8 0, .bool tm, .int .i8 0] 33)).cell? ⟨w.heap.size, 7, none⟩ = some (.slice X.ac X.lc X.cc) ∧ (w6.alloc (.cells #[.int .i64 (dn : Int), .int .i64 X.K, .bool al, .int .i8 0, .bool tm, .int .i8 0] 33)).cell? ⟨w.heap.size, 8, none⟩ = some (.int .i64 X.R) ∧ (w6.alloc (.cells #[.int .i64 (dn : Int), .int .i64 X.K, .bool al, .int .i8 0, .bool tm, .int .i8 0] 33)).cell? ⟨w.heap.size, 9, none⟩ = some (.slice X.ao X.lo X.co) ∧ (w6.alloc (.cells #[.int .i64 (dn : Int), .int .i64 X.K, .bool al, .int .i8 0, .bool tm, .int .i8 0] 33)).cell? ⟨w.heap.size, 10, none⟩ = some (.slice X.aa X.la X.ca) :=
      ⟨by simp, by simp, by simp, by simp, by simp, by simp, keeps_alloc _ _ _ _ x0, keeps_alloc _ _ _ _ x1, keeps_alloc _ _ _ _ x2, keeps_alloc _ _ _ _ x3, keeps_alloc _ _ _ _ x4, keeps_alloc _ _ _ _ x5, keeps_alloc _ _ _ _ x6, keeps_alloc _ _ _ _ x7, keeps_alloc _ _ _ _ x8, keeps_alloc _ _ _ _ x9, keeps_alloc _ _ _ _ x10⟩
    clear x0 x1 x2 x3 x4 x5 x6 x7 x8 x9 x10
    go_region_held3 (fun w' => w'.cell? ⟨w6.heap.size, 0, none⟩ = some (.int .i64 (dn : Int)) ∧ w'.cell? ⟨w6.heap.size, 1, none⟩ = some (.int .i64 X.K) ∧ w'.cell? ⟨w6.heap.size, 2, none⟩ = some (.bool al) ∧ w'.cell? ⟨w6.heap.size, 3, none⟩ = some (.int .i8 0) ∧ w'.cell? ⟨w6.heap.size, 4, none⟩ = some (.bool tm) ∧ w'.cell? ⟨w6.heap.size, 5, none⟩ = some (.int .i8 0) ∧ w'.cell? ⟨w.heap.size, 0, none⟩ = some (.int .i64 X.form) ∧ w'.cell? ⟨w.heap.size, 1, none⟩ = some (.int .i64 X.N) ∧ w'.cell? ⟨w.heap.size, 2, none⟩ = some (.int .i64 X.T) ∧ w'.cell? ⟨w.heap.size, 3, none⟩ = some (.int .i64 X.K) ∧ w'.cell? ⟨w.heap.size, 4, none⟩ = some (.int .i64 X.M) ∧ w'.cell? ⟨w.heap.size, 5, none⟩ = some (.int .i64 X.L) ∧ w'.cell? ⟨w.heap.size, 6, none⟩ = some (.slice X.ai X.li X.ci) ∧ w'.cell? ⟨w.heap.size, 7, none⟩ = some (.slice X.ac X.lc X.cc) ∧ w'.cell? ⟨w.heap.size, 8, none⟩ = some (.int .i64 X.R) ∧ w'.cell? ⟨w.heap.size, 9, none⟩ = some (.slice X.ao X.lo X.co) ∧ w'.cell? ⟨w.heap.size, 10, none⟩ = some (.slice X.aa X.la X.ca))
      (first | (go_keep; done))
      (first
        | (go_at_call 15; refine (HN.out.h15 _ (by exact HX6.out.mono (by simp (maxDischargeDepth := 20) only [kAlloc, kDrew, kRefl]))).mono ?_; rintro e w7 ⟨rfl, hb7⟩; have k7 := keeps_of_below hb7; have HX7 : Hid (Lies X w7) := (HX6.out.mono (by simp (maxDischargeDepth := 20) only [kAlloc, kDrew, kRefl])).mono k7; have hS7 := keep17 ((keeps_drew _).trans k7) hS0; have HB7 : Hid (Below w.heap.size w w7) := ((HB6.out.alloc (Nat.le_of_lt hl) (.cells #[.int .i64 (dn : Int), .int .i64 X.K, .bool al, .int .i8 0, .bool tm, .int .i8 0] 33)).drew).trans (hb7.mono (by simp; omega)); clear k7 hb7)
        | (go_at_call 16; refine (HN.out.h16 _ (by exact HX7.out)).mono ?_; rintro e w8 ⟨rfl, hb8⟩; have k8 := keeps_of_below hb8; have HX8 : Hid (Lies X w8) := HX7.out.mono k8; have hS8 := keep17 k8 hS7; have HB8 : Hid (Below w.heap.size w w8) := HB7.out.trans (hb8.mono HB7.out.size); clear k8 hb8)
        | (go_at_call 17; refine (HN.out.h17 _ (by exact HX8.out)).mono ?_; rintro e w9 ⟨rfl, hb9⟩; have k9 := keeps_of_below hb9; have hS9 := keep17 k9 hS8; have HB9 : Hid (Below w.heap.size w w9) := HB8.out.trans (hb9.mono HB8.out.size); clear k9 hb9))
    go_wp2
    go_ret
    exact ⟨by simp, HB9.out⟩
  · have hf : (X.form == 0) = false := by rw [beq_eq_false_iff_ne]; exact hform
    clear hform
    go_wp2_with fail
    refine (zzEarly_any X Y sb X.form da dc db _ (by exact HC5.out) (by exact HE5.out) HS.out HD.out HW.out hf).mono ?_
    rintro e w6 ⟨rfl, hb6⟩
    have hk6 := keeps_of_below hb6
    have HX6 : Hid (Lies X w6) := HX5.out.mono hk6
    have HO6 : Hid (BoxAt X w.heap.size w6) := HO5.out.mono hk6
    have HB6 : Hid (Below w.heap.size w w6) := HB5.out.trans (hb6.mono (HB5.out.size))
    clear hb6 hk6
    unfold VE
    have HN : Hid (Ends X w6 (Pl.dcount X.DV X.ld) (Pl.allIn X.I X.li X.DV X.ld) (Pl.term (Pl.inR 1 X.R) X.CP X.lc X.DP X.DR X.ld X.N.toNat) false) := Ends.mk' X w6 false _ (Pl.okOf_false X.R) HS.out HD.out
    have H14 : Hid (∀ W, Lies X W → Calls Try.prog 14 #[.agg #[.int .i64 X.form, .int .i64 X.N, .int .i64 X.T, .int .i64 X.K, .int .i64 X.M, .int .i64 X.L, .slice X.ai X.li X.ci, .slice X.ac X.lc X.cc, .int .i64 X.R, .slice X.ao X.lo X.co, .slice X.aa X.la X.ca], .slice X.ad X.ld X.cd] W fun e w' => e = .returned (.int .i8 (if Pl.above (bnd X) X.DR X.ld then 2 else 1)) ∧ Below W.heap.size W w') := fun W hX => (earlyB X W hX HS.out HD.out HW.out).mono fun _ _ ⟨he, hb⟩ => ⟨he, hb⟩
    generalize Pl.dcount X.DV X.ld = dn at *
    generalize Pl.allIn X.I X.li X.DV X.ld = al at *
    generalize Pl.term (Pl.inR 1 X.R) X.CP X.lc X.DP X.DR X.ld X.N.toNat = tm at *
    generalize (if Pl.above (bnd X) X.DR X.ld = true then (2 : Int) else 1) = ev at *
    obtain ⟨x0, x1, x2, x3, x4, x5, x6, x7, x8, x9, x10⟩ := HO6.out
    have hl := World.block_lt_of_cell? _ _ x0
    dsimp only at hl
    have hS6 : (w6.alloc (.cells #[.int .i64 (dn : Int), .int .i64 X.K, .bool al, .int .i8 0, .bool tm, .int .i8 ev] 33)).cell? ⟨w6.heap.size, 0, none⟩ = some (.int .i64 (dn : Int)) ∧ (w6.alloc (.cells #[.int .i64 (dn : Int), .int .i64 X.K, .bool al, .int .i8 0, .bool tm, .int .i8 ev] 33)).cell? ⟨w6.heap.size, 1, none⟩ = some (.int .i64 X.K) ∧ (w6.alloc (.cells #[.int .i64 (dn : Int), .int .i64 X.K, .bool al, .int .i8 0, .bool tm, .int .i8 ev] 33)).cell? ⟨w6.heap.size, 2, none⟩ = some (.bool al) ∧ (w6.alloc (.cells #[.int .i64 (dn : Int), .int .i64 X.K, .bool al, .int .i8 0, .bool tm, .int .i8 ev] 33)).cell? ⟨w6.heap.size, 3, none⟩ = some (.int .i8 0) ∧ (w6.alloc (.cells #[.int .i64 (dn : Int), .int .i64 X.K, .bool al, .int .i8 0, .bool tm, .int .i8 ev] 33)).cell? ⟨w6.heap.size, 4, none⟩ = some (.bool tm) ∧ (w6.alloc (.cells #[.int .i64 (dn : Int), .int .i64 X.K, .bool al, .int .i8 0, .bool tm, .int .i8 ev] 33)).cell? ⟨w6.heap.size, 5, none⟩ = some (.int .i8 ev) ∧ (w6.alloc (.cells #[.int .i64 (dn : Int), .int .i64 X.K, .bool al, .int .i8 0, .bool tm, .int .i8 ev] 33)).cell? ⟨w.heap.size, 0, none⟩ = some (.int .i64 X.form) ∧ (w6.alloc (.cells #[.int .i64 (dn : Int), .int .i64 X.K, .bool al, .int .i8 0, .bool tm, .int .i8 ev] 33)).cell? ⟨w.heap.size, 1, none⟩ = some (.int .i64 X.N) ∧ (w6.alloc (.cells #[.int .i64 (dn : Int), .int .i64 X.K, .bool al, .int .i8 0, .bool tm, .int .i8 ev] 33)).cell? ⟨w.heap.size, 2, none⟩ = some (.int .i64 X.T) ∧ (w6.alloc (.cells #[.int .i64 (dn : Int), .int .i64 X.K, .bool al, .int .i8 0, .bool tm, .int .i8 ev] 33)).cell? ⟨w.heap.size, 3, none⟩ = some (.int .i64 X.K) ∧ (w6.alloc (.cells #[.int .i64 (dn : Int), .int .i64 X.K, .bool al, .int .i8 0, .bool tm, .int .i8 ev] 33)).cell? ⟨w.heap.size, 4, none⟩ = some (.int .i64 X.M) ∧ (w6.alloc (.cells #[.int .i64 (dn : Int), .int .i64 X.K, .bool al, .int .i8 0, .bool tm, .int .i8 ev] 33)).cell? ⟨w.heap.size, 5, none⟩ = some (.int .i64 X.L) ∧ (w6.alloc (.cells #[.int .i64 (dn : Int), .int .i64 X.K, .bool al, .int .i8 0, .bool tm, .int .i8 ev] 33)).cell? ⟨w.heap.size, 6, none⟩ = some (.slice X.ai X.li X.ci) ∧ (w6.alloc (.cells #[.int .i64 (dn : Int), .int .i64 X.K, .bool al, .int .i8 0, .bool tm, .int .i8 ev] 33)).cell? ⟨w.heap.size, 7, none⟩ = some (.slice X.ac X.lc X.cc) ∧ (w6.alloc (.cells #[.int .i64 (dn : Int), .int .i64 X.K, .bool al, .int .i8 0, .bool tm, .int .i8 ev] 33)).cell? ⟨w.heap.size, 8, none⟩ = some (.int .i64 X.R) ∧ (w6.alloc (.cells #[.int .i64 (dn : Int), .int .i64 X.K, .bool al, .int .i8 0, .bool tm, .int .i8 ev] 33)).cell? ⟨w.heap.size, 9, none⟩ = some (.slice X.ao X.lo X.co) ∧ (w6.alloc (.cells #[.int .i64 (dn : Int), .int .i64 X.K, .bool al, .int .i8 0, .bool tm, .int .i8 ev] 33)).cell? ⟨w.heap.size, 10, none⟩ = some (.slice X.aa X.la X.ca) :=
      ⟨by simp, by simp, by simp, by simp, by simp, by simp, keeps_alloc _ _ _ _ x0, keeps_alloc _ _ _ _ x1, keeps_alloc _ _ _ _ x2, keeps_alloc _ _ _ _ x3, keeps_alloc _ _ _ _ x4, keeps_alloc _ _ _ _ x5, keeps_alloc _ _ _ _ x6, keeps_alloc _ _ _ _ x7, keeps_alloc _ _ _ _ x8, keeps_alloc _ _ _ _ x9, keeps_alloc _ _ _ _ x10⟩
    have HS6 : Hid ((w6.alloc (.cells #[.int .i64 (dn : Int), .int .i64 X.K, .bool al, .int .i8 0, .bool tm, .int .i8 ev] 33)).cell? ⟨w6.heap.size, 0, none⟩ = some (.int .i64 (dn : Int)) ∧ (w6.alloc (.cells #[.int .i64 (dn : Int), .int .i64 X.K, .bool al, .int .i8 0, .bool tm, .int .i8 ev] 33)).cell? ⟨w6.heap.size, 1, none⟩ = some (.int .i64 X.K) ∧ (w6.alloc (.cells #[.int .i64 (dn : Int), .int .i64 X.K, .bool al, .int .i8 0, .bool tm, .int .i8 ev] 33)).cell? ⟨w6.heap.size, 2, none⟩ = some (.bool al) ∧ (w6.alloc (.cells #[.int .i64 (dn : Int), .int .i64 X.K, .bool al, .int .i8 0, .bool tm, .int .i8 ev] 33)).cell? ⟨w6.heap.size, 3, none⟩ = some (.int .i8 0) ∧ (w6.alloc (.cells #[.int .i64 (dn : Int), .int .i64 X.K, .bool al, .int .i8 0, .bool tm, .int .i8 ev] 33)).cell? ⟨w6.heap.size, 4, none⟩ = some (.bool tm) ∧ (w6.alloc (.cells #[.int .i64 (dn : Int), .int .i64 X.K, .bool al, .int .i8 0, .bool tm, .int .i8 ev] 33)).cell? ⟨w6.heap.size, 5, none⟩ = some (.int .i8 ev) ∧ (w6.alloc (.cells #[.int .i64 (dn : Int), .int .i64 X.K, .bool al, .int .i8 0, .bool tm, .int .i8 ev] 33)).cell? ⟨w.heap.size, 0, none⟩ = some (.int .i64 X.form) ∧ (w6.alloc (.cells #[.int .i64 (dn : Int), .int .i64 X.K, .bool al, .int .i8 0, .bool tm, .int .i8 ev] 33)).cell? ⟨w.heap.size, 1, none⟩ = some (.int .i64 X.N) ∧ (w6.alloc (.cells #[.int .i64 (dn : Int), .int .i64 X.K, .bool al, .int .i8 0, .bool tm, .int .i8 ev] 33)).cell? ⟨w.heap.size, 2, none⟩ = some (.int .i64 X.T) ∧ (w6.alloc (.cells #[.int .i64 (dn : Int), .int .i64 X.K, .bool al, .int .i8 0, .bool tm, .int .i8 ev] 33)).cell? ⟨w.heap.size, 3, none⟩ = some (.int .i64 X.K) ∧ (w6.alloc (.cells #[.int .i64 (dn : Int), .int .i64 X.K, .bool al, .int .i8 0, .bool tm, .int .i8 ev] 33)).cell? ⟨w.heap.size, 4, none⟩ = some (.int .i64 X.M) ∧ (w6.alloc (.cells #[.int .i64 (dn : Int), .int .i64 X.K, .bool al, .int .i8 0, .bool tm, .int .i8 ev] 33)).cell? ⟨w.heap.size, 5, none⟩ = some (.int .i64 X.L) ∧ (w6.alloc (.cells #[.int .i64 (dn : Int), .int .i64 X.K, .bool al, .int .i8 0, .bool tm, .int .i8 ev] 33)).cell? ⟨w.heap.size, 6, none⟩ = some (.slice X.ai X.li X.ci) ∧ (w6.alloc (.cells #[.int .i64 (dn : Int), .int .i64 X.K, .bool al, .int .i8 0, .bool tm, .int .i8 ev] 33)).cell? ⟨w.heap.size, 7, none⟩ = some (.slice X.ac X.lc X.cc) ∧ (w6.alloc (.cells #[.int .i64 (dn : Int), .int .i64 X.K, .bool al, .int .i8 0, .bool tm, .int .i8 ev] 33)).cell? ⟨w.heap.size, 8, none⟩ = some (.int .i64 X.R) ∧ (w6.alloc (.cells #[.int .i64 (dn : Int), .int .i64 X.K, .bool al, .int .i8 0, .bool tm, .int .i8 ev] 33)).cell? ⟨w.heap.size, 9, none⟩ = some (.slice X.ao X.lo X.co) ∧ (w6.alloc (.cells #[.int .i64 (dn : Int), .int .i64 X.K, .bool al, .int .i8 0, .bool tm, .int .i8 ev] 33)).cell? ⟨w.heap.size, 10, none⟩ = some (.slice X.aa X.la X.ca)) := hS6
    clear hS6
    go_wp2_with fail
    refine (H14.out _ (by exact HX6.out.mono (keeps_alloc _ _))).mono ?_
    rintro e wf ⟨rfl, hbf⟩
    have kf := keeps_of_below hbf
    have hS0 := keep17 kf HS6.out
    have HXF : Hid (Lies X wf) := (HX6.out.mono (keeps_alloc _ _)).mono kf
    have HBF : Hid (Below w.heap.size w wf) := (HB6.out.alloc (Nat.le_of_lt hl) (.cells #[.int .i64 (dn : Int), .int .i64 X.K, .bool al, .int .i8 0, .bool tm, .int .i8 ev] 33)).trans (hbf.mono (by simp; omega))
    clear x0 x1 x2 x3 x4 x5 x6 x7 x8 x9 x10 hl kf hbf HS6
    have hl := HBF.out.size
    go_wp2
    go_region_held3 (fun w' => w'.cell? ⟨w6.heap.size, 0, none⟩ = some (.int .i64 (dn : Int)) ∧ w'.cell? ⟨w6.heap.size, 1, none⟩ = some (.int .i64 X.K) ∧ w'.cell? ⟨w6.heap.size, 2, none⟩ = some (.bool al) ∧ w'.cell? ⟨w6.heap.size, 3, none⟩ = some (.int .i8 0) ∧ w'.cell? ⟨w6.heap.size, 4, none⟩ = some (.bool tm) ∧ w'.cell? ⟨w6.heap.size, 5, none⟩ = some (.int .i8 ev) ∧ w'.cell? ⟨w.heap.size, 0, none⟩ = some (.int .i64 X.form) ∧ w'.cell? ⟨w.heap.size, 1, none⟩ = some (.int .i64 X.N) ∧ w'.cell? ⟨w.heap.size, 2, none⟩ = some (.int .i64 X.T) ∧ w'.cell? ⟨w.heap.size, 3, none⟩ = some (.int .i64 X.K) ∧ w'.cell? ⟨w.heap.size, 4, none⟩ = some (.int .i64 X.M) ∧ w'.cell? ⟨w.heap.size, 5, none⟩ = some (.int .i64 X.L) ∧ w'.cell? ⟨w.heap.size, 6, none⟩ = some (.slice X.ai X.li X.ci) ∧ w'.cell? ⟨w.heap.size, 7, none⟩ = some (.slice X.ac X.lc X.cc) ∧ w'.cell? ⟨w.heap.size, 8, none⟩ = some (.int .i64 X.R) ∧ w'.cell? ⟨w.heap.size, 9, none⟩ = some (.slice X.ao X.lo X.co) ∧ w'.cell? ⟨w.heap.size, 10, none⟩ = some (.slice X.aa X.la X.ca))
      (first | (go_keep; done))
      (first
        | (go_at_call 15; refine (HN.out.h15 _ (by exact HXF.out.mono (keeps_drew _))).mono ?_; rintro e w7 ⟨rfl, hb7⟩; have k7 := keeps_of_below hb7; have HX7 : Hid (Lies X w7) := (HXF.out.mono (keeps_drew _)).mono k7; have hS7 := keep17 ((keeps_drew _).trans k7) hS0; have HB7 : Hid (Below w.heap.size w w7) := (HBF.out.drew).trans (hb7.mono (by simp; omega)); clear k7 hb7)
        | (go_at_call 16; refine (HN.out.h16 _ (by exact HX7.out)).mono ?_; rintro e w8 ⟨rfl, hb8⟩; have k8 := keeps_of_below hb8; have HX8 : Hid (Lies X w8) := HX7.out.mono k8; have hS8 := keep17 k8 hS7; have HB8 : Hid (Below w.heap.size w w8) := HB7.out.trans (hb8.mono HB7.out.size); clear k8 hb8)
        | (go_at_call 17; refine (HN.out.h17 _ (by exact HX8.out)).mono ?_; rintro e w9 ⟨rfl, hb9⟩; have k9 := keeps_of_below hb9; have hS9 := keep17 k9 hS8; have HB9 : Hid (Below w.heap.size w w9) := HB8.out.trans (hb9.mono HB8.out.size); clear k9 hb9))
    go_wp2
    go_ret
    exact ⟨by simp, HB9.out⟩

end Go.Proofs.Qxb6613846a
