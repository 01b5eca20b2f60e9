import Derived.Test.Qxb6613846aRows
import Derived.Test.Qxb6613846aIn
import Derived.WalkKit
import Derived.WalkSpells
import Derived.WalkLawsBesides
import Derived.LoopTactic
import Derived.RegionTactic
import Derived.Laws.Pointers
import Derived.Outline
import Derived.RowKit3
import Derived.Test.Qxb6613846aPl2
import Derived.Test.Qxb6613846aMk
import Derived.Test.Qxb6613846aF3
import Derived.Test.Qxb6613846aG3
import Derived.Test.Qxb6613846aD
import Derived.Deep.RegionHeld3
import Derived.Deep.DrawnRows
namespace Go.Proofs.Qxb6613846a
open Go.RowKit
attribute [local go_sem ↓] Go.wp_at_zero Go.wp_at_succ

theorem cr_step {f : Nat → Value} {CP : Nat → Int} {k N pk : Nat} (hp : CP k = (pk : Int) + 1) (h : ∀ i, i < N → f i = .bool (Pl.crashed CP ((i : Int) + 1) k)) :
    ∀ i, i < N → (fun j => if j = pk then Value.bool true else f j) i = .bool (Pl.crashed CP ((i : Int) + 1) (k + 1)) := fun i hi => by
  show (if i = pk then _ else _) = Value.bool (Pl.crashed CP ((i : Int) + 1) k || (CP k == ((i : Int) + 1)))
  by_cases e : i = pk
  · subst e
    rw [if_pos rfl, hp]
    simp
  · have e2 : (CP k == ((i : Int) + 1)) = false := by rw [beq_eq_false_iff_ne, hp]; omega
    rw [if_neg e, e2, h i hi]
    simp

/-- The verdict of Plain. -/
def VP (X : Inp) : Value := .agg #[.int .i64 (Pl.dcount X.DV X.ld : Nat), .int .i64 X.K, .bool (Pl.allIn X.I X.li X.DV X.ld), .int .i8 0, .bool (Pl.term (Pl.inR X.R X.R) X.CP X.lc X.DP X.DR X.ld X.N.toNat), .int .i8 0]
def PlainPost (X : Inp) (w : World) (e : Ending) (w' : World) : Prop := e = .returned (VP X) ∧ Below w.heap.size w w'
/-- The bound of the early forms. -/
def bnd (X : Inp) : Int := if X.R < (X.lc : Int) / Pl.senders X.N X.K X.M X.L + 2 then X.R else (X.lc : Int) / Pl.senders X.N X.K X.M X.L + 2
/-- The verdict of the early forms. -/
def VE (X : Inp) : Value := .agg #[.int .i64 (Pl.dcount X.DV X.ld : Nat), .int .i64 X.K, .bool (Pl.allIn X.I X.li X.DV X.ld), .int .i8 0, .bool (Pl.term (Pl.inR 1 X.R) X.CP X.lc X.DP X.DR X.ld X.N.toNat), .int .i8 (if Pl.above (bnd X) X.DR X.ld then 2 else 1)]
def EarlyVPost (X : Inp) (w : World) (e : Ending) (w' : World) : Prop := e = .returned (VE X) ∧ Below w.heap.size w w'

theorem keeps3 (w : World) (o1 o2 o3 : Obj) : Keeps w (((w.alloc o1).alloc o2).alloc o3).drew := (keeps_alloc _ _).trans ((keeps_alloc _ _).trans (keeps_alloc _ _))

set_option maxRecDepth 100000 in
set_option maxHeartbeats 8000000 in
theorem judgePlain_any (X : Inp) (Y : Cp) (sb : Nat)  (a : Option Addr) (c b : Nat) (w : World) (hS : Sc X Y sb 0 w) (hD : Decs w a X.ld b 0 X.DP X.DV X.DR X.DS) (hs : Short X) (hd : Dom X) (hw : Wf X) :
    Calls Try.prog 36 #[.pointer (some ⟨sb, 0, none⟩), .slice a X.ld c] w (PlainPost X w) := by
  obtain ⟨form, N, T, K, M, L, R, ai, li, ci, bi, oi, I, ac, lc, cc, bc, oc, CP, CR, CA, CL, CC, CB, CO, CZ, ao, lo, co, bo, oo, OP, OR, OV, aa, la, ca, ba, oa, AP, AR, AV, ad, ld, cd, bd, od, DP, DV, DR, DS⟩ := X
  obtain ⟨a1, c1, b1, a2, c2, b2, a3, n3, c3, a4, n4, c4⟩ := Y
  obtain ⟨s0, s1, s2, s3, s4, s5, s6, s7, s8, s9, s10, sI, sC⟩ := hS
  obtain ⟨si, sc, scl, so, sa, sd⟩ := hs
  obtain ⟨n1, n2, k1, k2, l1, l2, m1, m2, cp, dp⟩ := hd
  obtain ⟨wr1, wv1⟩ := hw
  dsimp only at s0 s1 s2 s3 s4 s5 s6 s7 s8 s9 s10 sI sC si sc so sa sd n1 n2 k1 k2 l1 l2 m1 m2 cp dp wv1 hD ⊢
  obtain ⟨N', rfl⟩ := Int.eq_ofNat_of_zero_le (show 0 ≤ N by omega)
  clear scl so sa wr1 s2 s9 s10
  have hsb : sb < w.heap.size := World.block_lt_of_cell? w _ s0
  have hmk := run_make_any (P := Try.prog) 70 4 (.bool false) 1 1 Try.underlying70 info4 N' (by omega) (by omega)
  go_enter Try.func36, Try.ntmps36
  go_wp2
  go_loopw [7, 21] (fun _ i wr => ∃ (k : Nat) (f g : Nat → Value), k ≤ lc ∧ wr.rowIs w.heap.size 33 6 g ∧ wr.rowIs (w.heap.size + 1) 4 N' f ∧ (∀ i, i < N' → f i = .bool (Pl.crashed CP ((i : Int) + 1) k)) ∧ Below w.heap.size w wr ∧ i = .int .i64 k) (fun _ i _ => lc - (intOf i).toNat)
  case atStart =>
    obtain ⟨g, hg⟩ := rowIs_few w #[.int .i64 0, .int .i64 0, .bool false, .int .i8 0, .bool false, .int .i8 0] 33
    have hf2 : ((w.alloc (.cells #[.int .i64 0, .int .i64 0, .bool false, .int .i8 0, .bool false, .int .i8 0] 33)).alloc (.cells (madeCells #[.bool false] N') 4)).rowIs (w.heap.size + 1) 4 N' (fun _ => .bool false) := by
      have h := World.rowIs_made (w.alloc (.cells #[.int .i64 0, .int .i64 0, .bool false, .int .i8 0, .bool false, .int .i8 0] 33)) (.bool false) N' 4
      rwa [World.size_alloc] at h
    exact ⟨0, _, g, by omega, hg.alloc _, hf2, fun i hi => rfl, ((Below.refl _ _).alloc (Nat.le_refl _) _).alloc (by simp) _, rfl⟩
  case round =>
    obtain ⟨k, f, g, hk, hrg, hrf, hcr, hbel, rfl⟩ := hrel
    have HC : Hid (∀ i, i < N' → f i = .bool (Pl.crashed CP ((i : Int) + 1) k)) := hcr
    have HG : Hid (wr.rowIs w.heap.size 33 6 g) := hrg
    have HF : Hid (wr.rowIs (w.heap.size + 1) 4 N' f) := hrf
    have HB : Hid (Below w.heap.size w wr) := hbel
    have hkp := keeps_of_below hbel
    clear hcr hbel
    by_cases hlt : k < lc
    · obtain ⟨r, ra, rn, rc, e0, e1, e2⟩ := sC.cell k hlt
      have d0 := hkp _ _ e0
      have d1 := hkp _ _ e1
      have d2 := hkp _ _ e2
      simp only [Nat.zero_add] at d0 d1 d2
      obtain ⟨pp1, pp2⟩ := cp k hlt
      obtain ⟨pk, hpk⟩ : ∃ pk : Nat, CP k = (pk : Int) + 1 := ⟨(CP k - 1).toNat, by omega⟩
      have hpkN : pk < N' := by omega
      have HP : Hid (CP k = (pk : Int) + 1) := hpk
      rw [hpk] at d0
      obtain rfl := sC.addr (by omega)
      have r0 := hrf.cell hpkN
      have z0 := hrf.frozen pk
      have lt0 := hrf.lt
      have lt1 : w.heap.size < wr.heap.size := by omega
      clear hD cp dp wv1 sI sC hkp hpk pp1 pp2 hrg hrf e0 e1 e2 s0 s1 s3 s4 s5 s6 s7 s8
      go_wp2
      go_roundw
      case rel => exact ⟨k + 1, _, g, by omega, (HG.out.setOther (by simp) _).alloc _, (HF.out.set pk _).alloc _, cr_step HP.out HC.out, (HB.out.setCell (Nat.le_succ _) _).alloc (by simp; omega) _, by go_num⟩
      case measure => simp [intOf]; omega
    · obtain rfl : k = lc := by omega
      have q0 := hkp _ _ s0
      have q1 := hkp _ _ s1
      have q3 := hkp _ _ s3
      have q4 := hkp _ _ s4
      have q5 := hkp _ _ s5
      have q6 := hkp _ _ s6
      have q7 := hkp _ _ s7
      have q8 := hkp _ _ s8
      have HFC : Hid (∀ i, i < N' → wr.cell? ⟨w.heap.size + 1, i, none⟩ = some (.bool (Pl.crashed CP ((i : Int) + 1) k))) := fun i hi => by rw [hrf.cell hi, HC.out i hi]
      have HDD : Hid (Decs wr a ld b 0 DP DV DR DS) := hD.mono hkp
      have HI : Hid (Strs wr a1 li b1 0 I) := sI.mono hkp
      have HX : Hid (∀ j, j < ld → (DV j).size ≤ maxLen) := wv1
      have HDP : Hid (∀ j, j < ld → 1 ≤ DP j ∧ DP j ≤ (N' : Int)) := dp
      have lt0 := hrf.lt
      have lt1 : w.heap.size < wr.heap.size := by omega
      have hsb2 : sb < wr.heap.size := by omega
      have hne : w.heap.size ≠ sb := by omega
      clear hD cp dp wv1 sI sC hkp hrg hrf s0 s1 s3 s4 s5 s6 s7 s8 HC
      go_wp2_with fail
      refine (someInput_any _ _ _ _).mono ?_
      rintro e w1 ⟨rfl, rfl⟩
      go_wp2
      go_region_held3 (fun w' => w'.cell? ⟨sb, 3, none⟩ = some (.int .i64 K) ∧ w'.cell? ⟨sb, 8, none⟩ = some (.int .i64 R))
        (first | (go_keep; done) | (go_split_ands; exact ⟨keeps3 _ _ _ _ _ _ q3, keeps3 _ _ _ _ _ _ q8⟩))
        (first
          | (go_at_call 44; refine (inRounds_any _ _ _).mono ?_; rintro e w2 ⟨rfl, rfl⟩)
          | (go_at_call 43; refine (judge43_any a ld c b DP DV DR DS K (w.heap.size + 1) N' CP k _ _ R R wr.heap.size a1 li c1 b1 I _ sd (by exact HDD.out.mono (keeps3 _ _ _ _)) HX.out HDP.out (by omega) (by exact fun i hi => keeps3 _ _ _ _ _ _ (HFC.out i hi)) (by simp [go_sem]) (by simp [go_sem]) (by simp [go_sem]) si (by exact HI.out.mono (keeps3 _ _ _ _))).mono ?_; rintro e w3 ⟨rfl, hb3⟩; have g3 := keeps_of_below hb3 _ _ (keeps3 _ _ _ _ _ _ q3); have g8 := keeps_of_below hb3 _ _ (keeps3 _ _ _ _ _ _ q8); have hr3 := rowIs_below (((HG.out.alloc _).alloc _).alloc _).drew hb3 (by simp; omega); have y0 := hr3.cell (i := 0) (by omega); have y1 := hr3.cell (i := 1) (by omega); have y2 := hr3.cell (i := 2) (by omega); have y3 := hr3.cell (i := 3) (by omega); have y4 := hr3.cell (i := 4) (by omega); have y5 := hr3.cell (i := 5) (by omega); have z0 := hr3.frozen 0; have z1 := hr3.frozen 1; have z2 := hr3.frozen 2; have z3 := hr3.frozen 3; have z4 := hr3.frozen 4; have z5 := hr3.frozen 5))
      go_wp2
      refine bodyPost_ret (v := .agg #[.int .i64 (Pl.dcount DV ld : Nat), .int .i64 K, .bool (Pl.allIn I li DV ld), .int .i8 0, .bool (Pl.term (Pl.inR R R) CP k DP DR ld N'), .int .i8 0]) (by simp [results, Try.results36, go_sem, y0, y1, y2, y3, y4, y5]) rfl ⟨by simp [VP], ?_⟩
      have hb4 := hb3.mono (B' := w.heap.size) (by simp; omega)
      exact ((((((((((HB.out.alloc (by omega) _).alloc (by simp; omega) _).alloc (by simp; omega) _).drew).trans hb4).setCell (Nat.le_refl _) _).setCell (Nat.le_refl _) _).setCell (Nat.le_refl _) _).setCell (Nat.le_refl _) _).setCell (Nat.le_refl _) _).setCell (Nat.le_refl _) _
end Go.Proofs.Qxb6613846a
