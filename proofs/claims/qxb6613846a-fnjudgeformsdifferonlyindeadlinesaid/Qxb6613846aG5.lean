import Derived.Test.Qxb6613846aRows
import Derived.Test.Qxb6613846aIn
import Derived.WalkKit
import Derived.WalkSpells
import Derived.WalkLawsBesides
import Derived.LoopTactic
import Derived.RegionTactic
import Derived.Laws.Pointers
import Derived.Outline
import Derived.RowKit3
import Derived.Test.Qxb6613846aPl2
import Derived.Test.Qxb6613846aMk
import Derived.Test.Qxb6613846aF3
import Derived.Test.Qxb6613846aG4
import Derived.Deep.DeepCutAuto
import Derived.Test.Qxb6613846aD
import Derived.Deep.RegionHeld3
import Derived.Deep.DrawnRows
namespace Go.Proofs.Qxb6613846a
open Go.RowKit
attribute [local go_sem ↓] Go.wp_at_zero Go.wp_at_succ

theorem bcell {W w1 : World} (hb : Below W.heap.size W w1) : (∀ b o, b < W.heap.size → w1.cell? ⟨b, o, none⟩ = W.cell? ⟨b, o, none⟩) ∧ (∀ b o, b < W.heap.size → w1.frozen? ⟨b, o, none⟩ = W.frozen? ⟨b, o, none⟩) :=
  ⟨fun b o h => hb.cell (p := ⟨b, o, none⟩) h, fun b o h => hb.frozen (p := ⟨b, o, none⟩) h⟩
theorem alloc_drewN (w : World) (n : Nat) (o : Obj) : (w.drewN n).alloc o = (w.alloc o).drewN n := rfl
theorem setCell_drewN (w : World) (n : Nat) (a : Addr) (v : Value) : (w.drewN n).setCell a v = (w.setCell a v).drewN n := rfl
attribute [local go_sem] alloc_drewN setCell_drewN
theorem kAlloc {w W : World} {o : Obj} (h : Keeps w W) : Keeps w (W.alloc o) = True := eq_true (h.trans (keeps_alloc _ _))
theorem kDrew {w W : World} (h : Keeps w W) : Keeps w W.drew = True := eq_true (h.trans (keeps_drew _))
theorem kRefl {w : World} : Keeps w w = True := eq_true (Keeps.refl _)
theorem Keeps.get {w W : World} (k : Keeps w W) {a : Addr} {v : Value} (h : w.cell? a = some v) : W.cell? a = some v := k _ _ h

set_option maxRecDepth 100000 in
set_option maxHeartbeats 8000000 in
theorem judgeEarly_any (X : Inp) (Y : Cp) (sb : Nat) (F : Int) (a : Option Addr) (c b : Nat) (w : World) (hS : Sc X Y sb F w) (hD : Decs w a X.ld b 0 X.DP X.DV X.DR X.DS) (hs : Short X) (hd : Dom X) (hw : Wf X) (hF : (F == 0) = false) :
    Calls Try.prog 36 #[.pointer (some ⟨sb, 0, none⟩), .slice a X.ld c] w (EarlyVPost X w) := by
  obtain ⟨form, N, T, K, M, L, R, ai, li, ci, bi, oi, I, ac, lc, cc, bc, oc, CP, CR, CA, CL, CC, CB, CO, CZ, ao, lo, co, bo, oo, OP, OR, OV, aa, la, ca, ba, oa, AP, AR, AV, ad, ld, cd, bd, od, DP, DV, DR, DS⟩ := X
  obtain ⟨a1, c1, b1, a2, c2, b2, a3, n3, c3, a4, n4, c4⟩ := Y
  obtain ⟨s0, s1, s2, s3, s4, s5, s6, s7, s8, s9, s10, sI, sC⟩ := hS
  obtain ⟨si, sc, scl, so, sa, sd⟩ := hs
  obtain ⟨n1, n2, k1, k2, l1, l2, m1, m2, cp, dp⟩ := hd
  obtain ⟨wr1, wv1⟩ := hw
  dsimp only at s0 s1 s2 s3 s4 s5 s6 s7 s8 s9 s10 sI sC si sc so sa sd n1 n2 k1 k2 l1 l2 m1 m2 cp dp wv1 hD ⊢
  obtain ⟨N', rfl⟩ := Int.eq_ofNat_of_zero_le (show 0 ≤ N by omega)
  clear scl so sa wr1 s2 s9 s10
  have hsb : sb < w.heap.size := World.block_lt_of_cell? w _ s0
  have hmk := run_make_any (P := Try.prog) 70 4 (.bool false) 1 1 Try.underlying70 info4 N' (by omega) (by omega)
  go_enter Try.func36, Try.ntmps36
  go_wp2
  go_loopw [7, 21] (fun _ i wr => ∃ (k : Nat) (f g : Nat → Value), k ≤ lc ∧ wr.rowIs w.heap.size 33 6 g ∧ wr.rowIs (w.heap.size + 1) 4 N' f ∧ (∀ i, i < N' → f i = .bool (Pl.crashed CP ((i : Int) + 1) k)) ∧ Below w.heap.size w wr ∧ i = .int .i64 k) (fun _ i _ => lc - (intOf i).toNat)
  case atStart =>
    obtain ⟨g, hg⟩ := rowIs_few w #[.int .i64 0, .int .i64 0, .bool false, .int .i8 0, .bool false, .int .i8 0] 33
    have hf2 : ((w.alloc (.cells #[.int .i64 0, .int .i64 0, .bool false, .int .i8 0, .bool false, .int .i8 0] 33)).alloc (.cells (madeCells #[.bool false] N') 4)).rowIs (w.heap.size + 1) 4 N' (fun _ => .bool false) := by
      have h := World.rowIs_made (w.alloc (.cells #[.int .i64 0, .int .i64 0, .bool false, .int .i8 0, .bool false, .int .i8 0] 33)) (.bool false) N' 4
      rwa [World.size_alloc] at h
    exact ⟨0, _, g, by omega, hg.alloc _, hf2, fun i hi => rfl, ((Below.refl _ _).alloc (Nat.le_refl _) _).alloc (by simp) _, rfl⟩
  case round =>
    obtain ⟨k, f, g, hk, hrg, hrf, hcr, hbel, rfl⟩ := hrel
    have HC : Hid (∀ i, i < N' → f i = .bool (Pl.crashed CP ((i : Int) + 1) k)) := hcr
    have HG : Hid (wr.rowIs w.heap.size 33 6 g) := hrg
    have HF : Hid (wr.rowIs (w.heap.size + 1) 4 N' f) := hrf
    have HB : Hid (Below w.heap.size w wr) := hbel
    have hkp := keeps_of_below hbel
    clear hcr hbel
    by_cases hlt : k < lc
    · obtain ⟨r, ra, rn, rc, e0, e1, e2⟩ := sC.cell k hlt
      have d0 := hkp _ _ e0
      have d1 := hkp _ _ e1
      have d2 := hkp _ _ e2
      simp only [Nat.zero_add] at d0 d1 d2
      obtain ⟨pp1, pp2⟩ := cp k hlt
      obtain ⟨pk, hpk⟩ : ∃ pk : Nat, CP k = (pk : Int) + 1 := ⟨(CP k - 1).toNat, by omega⟩
      have hpkN : pk < N' := by omega
      have HP : Hid (CP k = (pk : Int) + 1) := hpk
      rw [hpk] at d0
      obtain rfl := sC.addr (by omega)
      have r0 := hrf.cell hpkN
      have z0 := hrf.frozen pk
      have lt0 := hrf.lt
      have lt1 : w.heap.size < wr.heap.size := by omega
      clear hD cp dp wv1 sI sC hkp hpk pp1 pp2 hrg hrf e0 e1 e2 s0 s1 s3 s4 s5 s6 s7 s8
      go_wp2
      go_roundw
      case rel => exact ⟨k + 1, _, g, by omega, (HG.out.setOther (by simp) _).alloc _, (HF.out.set pk _).alloc _, cr_step HP.out HC.out, (HB.out.setCell (Nat.le_succ _) _).alloc (by simp; omega) _, by go_num⟩
      case measure => simp [intOf]; omega
    · obtain rfl : k = lc := by omega
      have q0 := hkp _ _ s0
      have q1 := hkp _ _ s1
      have q3 := hkp _ _ s3
      have q4 := hkp _ _ s4
      have q5 := hkp _ _ s5
      have q6 := hkp _ _ s6
      have q7 := hkp _ _ s7
      have q8 := hkp _ _ s8
      have HFC : Hid (∀ i, i < N' → wr.cell? ⟨w.heap.size + 1, i, none⟩ = some (.bool (Pl.crashed CP ((i : Int) + 1) k))) := fun i hi => by rw [hrf.cell hi, HC.out i hi]
      have HDD : Hid (Decs wr a ld b 0 DP DV DR DS) := hD.mono hkp
      have HI : Hid (Strs wr a1 li b1 0 I) := sI.mono hkp
      have HX : Hid (∀ j, j < ld → (DV j).size ≤ maxLen) := wv1
      have HDP : Hid (∀ j, j < ld → 1 ≤ DP j ∧ DP j ≤ (N' : Int)) := dp
      have lt0 := hrf.lt
      have lt1 : w.heap.size < wr.heap.size := by omega
      have hsb2 : sb < wr.heap.size := by omega
      have hne : w.heap.size ≠ sb := by omega
      have HSW : Hid (w.cell? ⟨sb, 1, none⟩ = some (.int .i64 N') ∧ w.cell? ⟨sb, 3, none⟩ = some (.int .i64 K) ∧ w.cell? ⟨sb, 4, none⟩ = some (.int .i64 M) ∧ w.cell? ⟨sb, 5, none⟩ = some (.int .i64 L) ∧ w.cell? ⟨sb, 7, none⟩ = some (.slice a2 k c2) ∧ w.cell? ⟨sb, 8, none⟩ = some (.int .i64 R)) := ⟨s1, s3, s4, s5, s7, s8⟩
      have HDW : Hid (Decs w a ld b 0 DP DV DR DS) := hD
      clear hD cp dp wv1 sI sC hkp hrg hrf s0 s1 s3 s4 s5 s6 s7 s8 HC
      go_wp2_with fail
      refine (someInput_any _ _ _ _).mono ?_
      rintro e w1 ⟨rfl, rfl⟩
      have hn1 : wr.heap.size + 1 ≠ sb := by omega
      have hn2 : wr.heap.size + 1 + 1 ≠ sb := by omega
      have hn3 : wr.heap.size + 1 + 1 + 1 ≠ sb := by omega
      go_upto_region 10 with fail
      go_cut [9] (fun v wc => ∃ vb : Nat, v = .pointer (some ⟨vb, 0, none⟩) ∧ w.heap.size < vb ∧ vb < wc.heap.size ∧ wc.cell? ⟨vb, 0, none⟩ = some (.int .i64 (Pl.dcount DV ld : Nat)) ∧ wc.cell? ⟨vb, 1, none⟩ = some (.int .i64 K) ∧ wc.cell? ⟨vb, 2, none⟩ = some (.bool (Pl.allIn I li DV ld)) ∧ wc.cell? ⟨vb, 3, none⟩ = some (.int .i8 0) ∧ wc.cell? ⟨vb, 4, none⟩ = some (.bool (Pl.term (Pl.inR 1 R) CP k DP DR ld N')) ∧ wc.cell? ⟨vb, 5, none⟩ = some (.int .i8 0) ∧ wc.frozen? ⟨vb, 5, none⟩ = false ∧ wc.rowIs w.heap.size 33 6 g ∧ Below w.heap.size w wc)
      case first =>
        go_region_held3 (fun w' => w'.cell? ⟨sb, 3, none⟩ = some (.int .i64 K) ∧ w'.cell? ⟨sb, 8, none⟩ = some (.int .i64 R))
          (first | (go_split_ands; exact ⟨Keeps.get (by simp (maxDischargeDepth := 20) only [kAlloc, kDrew, kRefl]) q3, Keeps.get (by simp (maxDischargeDepth := 20) only [kAlloc, kDrew, kRefl]) q8⟩) | (go_keep; done))
          (first
            | (go_at_call 44; refine (inRounds_any _ _ _).mono ?_; rintro e w2 ⟨rfl, rfl⟩)
            | (go_at_call 43; refine (judge43_any a ld c b DP DV DR DS K (w.heap.size + 1) N' CP k _ _ 1 R wr.heap.size a1 li c1 b1 I _ sd (by exact HDD.out.mono (by simp (maxDischargeDepth := 20) only [kAlloc, kDrew, kRefl])) HX.out HDP.out (by omega) (by exact fun i hi => Keeps.get (by simp (maxDischargeDepth := 20) only [kAlloc, kDrew, kRefl]) (HFC.out i hi)) (by simp [go_sem]) (by simp [go_sem]) (by simp [go_sem]) si (by exact HI.out.mono (by simp (maxDischargeDepth := 20) only [kAlloc, kDrew, kRefl]))).mono ?_; rintro e w3 ⟨rfl, hb3⟩; have g3 := keeps_of_below hb3 _ _ (by exact Keeps.get (by simp (maxDischargeDepth := 20) only [kAlloc, kDrew, kRefl]) q3); have g8 := keeps_of_below hb3 _ _ (by exact Keeps.get (by simp (maxDischargeDepth := 20) only [kAlloc, kDrew, kRefl]) q8); have z3 := hb3.size; obtain ⟨hc3, hf3⟩ := bcell hb3; have hn4 : w3.heap.size ≠ sb := by simp at z3; omega))
        · go_wp2_with fail
          go_meet
          case rel =>
            simp at z3
            exact ⟨w3.heap.size, rfl, by omega, by simp, by simp [go_sem], by simp [go_sem], by simp [go_sem], by simp [go_sem], by simp [go_sem], by simp [go_sem], by simp [go_sem], (rowIs_below (((HG.out.alloc _).alloc _).alloc _).drew hb3 (by simp; omega)).alloc _, ((((((HB.out.alloc (by omega) _).alloc (by simp; omega) _).alloc (by simp; omega) _).drew).trans (hb3.mono (by simp; omega))).alloc (by omega) _)⟩
        · go_wp2_with fail
          go_meet
          case rel =>
            simp at z3
            exact ⟨wr.heap.size + 1 + 1 + 1, rfl, by omega, by simp; omega, by simp [go_sem, hc3], by simp [go_sem, hc3], by simp [go_sem, hc3], by simp [go_sem, hc3], by simp [go_sem, hc3], by simp [go_sem, hc3], by simp [go_sem, hf3], (((((((rowIs_below ((((HG.out.alloc _).alloc _).alloc _).alloc _).drew hb3 (by simp; omega)).setOther (by simp; omega) _).setOther (by simp; omega) _).setOther (by simp; omega) _).setOther (by simp; omega) _).setOther (by simp; omega) _).setOther (by simp; omega) _), ((((((((((((HB.out.alloc (by omega) _).alloc (by simp; omega) _).alloc (by simp; omega) _).alloc (by simp; omega) _).drew).trans (hb3.mono (by simp; omega))).setCell (by simp; omega) _).setCell (by simp; omega) _).setCell (by simp; omega) _).setCell (by simp; omega) _).setCell (by simp; omega) _).setCell (by simp; omega) _)⟩
        · go_wp2_with fail
          go_meet
          case rel =>
            simp at z3
            exact ⟨wr.heap.size + 1, rfl, by omega, by simp; omega, by simp [go_sem, hc3], by simp [go_sem, hc3], by simp [go_sem, hc3], by simp [go_sem, hc3], by simp [go_sem, hc3], by simp [go_sem, hc3], by simp [go_sem, hf3], (((((((rowIs_below ((((HG.out.alloc _).alloc _).alloc _).alloc _).drew hb3 (by simp; omega)).setOther (by simp; omega) _).setOther (by simp; omega) _).setOther (by simp; omega) _).setOther (by simp; omega) _).setOther (by simp; omega) _).setOther (by simp; omega) _), ((((((((((((HB.out.alloc (by omega) _).alloc (by simp; omega) _).alloc (by simp; omega) _).alloc (by simp; omega) _).drew).trans (hb3.mono (by simp; omega))).setCell (by simp; omega) _).setCell (by simp; omega) _).setCell (by simp; omega) _).setCell (by simp; omega) _).setCell (by simp; omega) _).setCell (by simp; omega) _)⟩
      case rest =>
        obtain ⟨wz, rfl⟩ : ∃ wz, wz = wc := ⟨_, rfl⟩
        obtain ⟨vb, rfl, v1, v2, c0, c1', c2', c3', c4', c5, f5, hrg, hbw⟩ := hcut
        obtain ⟨s1, s3, s4, s5, s7, s8⟩ := HSW.out
        have hkp := keeps_of_below hbw
        have t1 := hkp _ _ s1
        have t3 := hkp _ _ s3
        have t4 := hkp _ _ s4
        have t5 := hkp _ _ s5
        have t7 := hkp _ _ s7
        have t8 := hkp _ _ s8
        have hsz := hbw.size
        have HGC : Hid (wz.rowIs w.heap.size 33 6 g) := hrg
        have HBW : Hid (Below w.heap.size w wz) := hbw
        obtain ⟨d1, d2⟩ := Pl.senders_bd (N' : Int) K M L n1 n2 k1 l1 m1
        have e0 : 0 ≤ (k : Int) / Pl.senders (N' : Int) K M L := Int.ediv_nonneg (by omega) (by omega)
        have e1 : (k : Int) / Pl.senders (N' : Int) K M L ≤ (k : Int) := Int.ediv_le_self _ (by omega)
        clear HSW s1 s3 s4 s5 s7 s8 hkp hrg hbw q0 q1 q3 q4 q5 q6 q7 q8 HFC HDD HI HX HDP HG HF HB hn1 hn2 hn3 hsb2 lt0 lt1
        have hn0 : wz.heap.size ≠ sb := by omega
        go_upto_region 11 with fail
        go_cut [10] (fun v wd => ∃ bb : Nat, v = .pointer (some ⟨bb, 0, none⟩) ∧ wz.heap.size ≤ bb ∧ bb < wd.heap.size ∧ wd.cell? ⟨bb, 0, none⟩ = some (.int .i64 (if R < (k : Int) / Pl.senders (N' : Int) K M L + 2 then R else (k : Int) / Pl.senders (N' : Int) K M L + 2)) ∧ Below wz.heap.size wz wd)
        case first =>
          have z1 : (Pl.senders (N' : Int) K M L == 0) = false := by rw [beq_eq_false_iff_ne]; omega
          have z2 : ¬ Pl.senders (N' : Int) K M L = 0 := by omega
          have z3 : Int.tdiv (k : Int) (Pl.senders (N' : Int) K M L) = (k : Int) / Pl.senders (N' : Int) K M L := Int.tdiv_eq_ediv_of_nonneg (by omega)
          have z4 : IntKind.i64.wrap ((k : Int) / Pl.senders (N' : Int) K M L) = (k : Int) / Pl.senders (N' : Int) K M L := by rw [IntKind.wrap_i64]; omega
          have z5 : IntKind.i64.wrap ((k : Int) / Pl.senders (N' : Int) K M L + 2) = (k : Int) / Pl.senders (N' : Int) K M L + 2 := by rw [IntKind.wrap_i64]; omega
          by_cases hR : R < (k : Int) / Pl.senders (N' : Int) K M L + 2
          · go_region_held3 (fun w' => w'.cell? ⟨sb, 1, none⟩ = some (.int .i64 N') ∧ w'.cell? ⟨sb, 3, none⟩ = some (.int .i64 K) ∧ w'.cell? ⟨sb, 4, none⟩ = some (.int .i64 M) ∧ w'.cell? ⟨sb, 5, none⟩ = some (.int .i64 L) ∧ w'.cell? ⟨sb, 7, none⟩ = some (.slice a2 k c2) ∧ w'.cell? ⟨sb, 8, none⟩ = some (.int .i64 R))
              (first | (go_keep; done))
              ((go_at_call 45; refine (senders_any _ _ _ _ _ n1 n2 k1 k2 l1 l2 m1 m2).mono ?_; rintro e w3 ⟨rfl, qq, rfl⟩))
            all_goals
              go_wp2_with fail
              go_meet
              case rel => exact ⟨wz.heap.size, rfl, Nat.le_refl _, by simp, by simp [go_sem, hR], by first | exact below_drewN' ((Below.refl _ _).alloc (Nat.le_refl _) _) _ | exact (below_drewN' ((Below.refl _ _).alloc (Nat.le_refl _) _) _).drew⟩
          · go_region_held3 (fun w' => w'.cell? ⟨sb, 1, none⟩ = some (.int .i64 N') ∧ w'.cell? ⟨sb, 3, none⟩ = some (.int .i64 K) ∧ w'.cell? ⟨sb, 4, none⟩ = some (.int .i64 M) ∧ w'.cell? ⟨sb, 5, none⟩ = some (.int .i64 L) ∧ w'.cell? ⟨sb, 7, none⟩ = some (.slice a2 k c2) ∧ w'.cell? ⟨sb, 8, none⟩ = some (.int .i64 R))
              (first | (go_keep; done))
              ((go_at_call 45; refine (senders_any _ _ _ _ _ n1 n2 k1 k2 l1 l2 m1 m2).mono ?_; rintro e w3 ⟨rfl, qq, rfl⟩))
            all_goals
              go_wp2_with fail
              go_meet
              case rel => exact ⟨wz.heap.size, rfl, Nat.le_refl _, by simp, by simp [go_sem]; omega, by first | exact below_drewN' ((Below.refl _ _).alloc (Nat.le_refl _) _) _ | exact (below_drewN' ((Below.refl _ _).alloc (Nat.le_refl _) _) _).drew⟩
        case rest =>
          obtain ⟨bb, rfl, b1', b2', hB, hbd⟩ := hcut
          have hkd := keeps_of_below hbd
          have y0 := hkd _ _ c0
          have y1 := hkd _ _ c1'
          have y2 := hkd _ _ c2'
          have y3 := hkd _ _ c3'
          have y4 := hkd _ _ c4'
          have y5 := hkd _ _ c5
          have yf : wc.frozen? ⟨vb, 5, none⟩ = false := by rw [hbd.frozen (p := ⟨vb, 5, none⟩) v2]; exact f5
          have HGD : Hid (wc.rowIs w.heap.size 33 6 g) := rowIs_below HGC.out hbd (by omega)
          have HBD : Hid (Below w.heap.size w wc) := HBW.out.trans (hbd.mono hsz)
          have hszd := hbd.size
          have hne1 : vb ≠ bb := by omega
          have HBND : Hid (bnd ⟨form, N', T, K, M, L, R, ai, li, ci, bi, oi, I, ac, k, cc, bc, oc, CP, CR, CA, CL, CC, CB, CO, CZ, ao, lo, co, bo, oo, OP, OR, OV, aa, la, ca, ba, oa, AP, AR, AV, ad, ld, cd, bd, od, DP, DV, DR, DS⟩ = if R < (k : Int) / Pl.senders (N' : Int) K M L + 2 then R else (k : Int) / Pl.senders (N' : Int) K M L + 2) := rfl
          generalize (if R < (k : Int) / Pl.senders (N' : Int) K M L + 2 then R else (k : Int) / Pl.senders (N' : Int) K M L + 2) = Bd at *
          clear c0 c1' c2' c3' c4' c5 f5 t1 t3 t4 t5 t7 t8 HGC HBW hbd hkd d1 d2 e0 e1 hn0 hmk
          go_wp2_with fail
          refine (containsFunc_any _ _ _ b DP DV DR DS bb Bd _ sd (by exact HDW.out.mono (keeps_of_below (HBD.out.setCell (p := ⟨vb, 5, none⟩) (by show w.heap.size ≤ vb; omega) _))) (by simp [go_sem, hB, World.cell?_setCell_far, hne1])).mono ?_
          rintro e w6 ⟨rfl, hb6⟩
          have hb6s := hb6.size
          simp at hb6s
          have HR6 : Hid (w6.rowIs w.heap.size 33 6 g) := rowIs_below (HGD.out.setOther (by show w.heap.size ≠ vb; omega) _) hb6 (by simp; omega)
          have HB6 : Hid (Below w.heap.size w w6) := (HBD.out.setCell (p := ⟨vb, 5, none⟩) (by show w.heap.size ≤ vb; omega) _).trans (hb6.mono (by simp; omega))
          have hx : ∀ o v, (wc.setCell ⟨vb, 5, none⟩ (.int .i8 1)).cell? ⟨vb, o, none⟩ = some v → w6.cell? ⟨vb, o, none⟩ = some v := fun o v h => keeps_of_below hb6 _ _ h
          have x0 := hx 0 _ (by simp [go_sem]; exact y0)
          have x1 := hx 1 _ (by simp [go_sem]; exact y1)
          have x2 := hx 2 _ (by simp [go_sem]; exact y2)
          have x3 := hx 3 _ (by simp [go_sem]; exact y3)
          have x4 := hx 4 _ (by simp [go_sem]; exact y4)
          have x5 := hx 5 (.int .i8 1) (by simp [go_sem, y5])
          have xf : w6.frozen? ⟨vb, 5, none⟩ = false := by rw [hb6.frozen (p := ⟨vb, 5, none⟩) (by simp; omega)]; simp [go_sem, yf]
          have g0 := HR6.out.cell (i := 0) (by omega)
          have g1 := HR6.out.cell (i := 1) (by omega)
          have g2 := HR6.out.cell (i := 2) (by omega)
          have g3 := HR6.out.cell (i := 3) (by omega)
          have g4 := HR6.out.cell (i := 4) (by omega)
          have g5 := HR6.out.cell (i := 5) (by omega)
          have f0 := HR6.out.frozen 0
          have f1 := HR6.out.frozen 1
          have f2 := HR6.out.frozen 2
          have f3 := HR6.out.frozen 3
          have f4 := HR6.out.frozen 4
          have f5 := HR6.out.frozen 5
          have hne2 : w.heap.size ≠ vb := by omega
          clear y0 y1 y2 y3 y4 y5 yf hx hb6 hB HGD HBD
          cases hab : Pl.above Bd DR ld
          · go_wp2
            refine bodyPost_ret (v := .agg #[.int .i64 (Pl.dcount DV ld : Nat), .int .i64 K, .bool (Pl.allIn I li DV ld), .int .i8 0, .bool (Pl.term (Pl.inR 1 R) CP k DP DR ld N'), .int .i8 1]) (by simp [results, Try.results36, go_sem, g0, g1, g2, g3, g4, g5]) rfl ⟨by simp [VE, HBND.out, hab], ?_⟩
            exact ((((((HB6.out.setCell (Nat.le_refl _) _).setCell (Nat.le_refl _) _).setCell (Nat.le_refl _) _).setCell (Nat.le_refl _) _).setCell (Nat.le_refl _) _).setCell (Nat.le_refl _) _)
          · go_wp2
            have hne3 : vb ≠ w.heap.size := by omega
            refine bodyPost_ret (v := .agg #[.int .i64 (Pl.dcount DV ld : Nat), .int .i64 K, .bool (Pl.allIn I li DV ld), .int .i8 0, .bool (Pl.term (Pl.inR 1 R) CP k DP DR ld N'), .int .i8 2]) (by simp [results, Try.results36, go_sem, World.cell?_setCell_far, hne3, g0, g1, g2, g3, g4, g5]) rfl ⟨by simp [VE, HBND.out, hab], ?_⟩
            exact (((((((HB6.out.setCell (by show w.heap.size ≤ vb; omega) _).setCell (Nat.le_refl _) _).setCell (Nat.le_refl _) _).setCell (Nat.le_refl _) _).setCell (Nat.le_refl _) _).setCell (Nat.le_refl _) _).setCell (Nat.le_refl _) _)
end Go.Proofs.Qxb6613846a
