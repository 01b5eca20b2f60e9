import Derived.Test.Qxb6613846aRows
import Derived.Test.Qxb6613846aIn
import Derived.WalkKit
import Derived.WalkSpells
import Derived.WalkLawsBesides
import Derived.LoopTactic
import Derived.RegionTactic
import Derived.Laws.Pointers
import Derived.Outline
import Derived.RowKit3
import Derived.Test.Qxb6613846aPl2
import Derived.Test.Qxb6613846aMk
import Derived.Test.Qxb6613846aF3
import Derived.Test.Qxb6613846aG2
import Derived.Deep.RegionHeld3
import Derived.Deep.DrawnRows
namespace Go.Proofs.Qxb6613846a
open Go.RowKit
attribute [local go_sem ↓] Go.wp_at_zero Go.wp_at_succ

theorem info4 : (Try.prog.info? 4).map (fun i => (i.zero, i.size, i.bytes)) = some (some (.bool false), 1, 1) := by kernel_rfl

/-- decided after k decisions. -/
theorem dec_step {f : Nat → Value} {ok : Int → Bool} {P R : Nat → Int} {k N pk : Nat} (hp : P k = (pk : Int) + 1) (h : ∀ i, i < N → f i = .bool (Pl.onT ok P R ((i : Int) + 1) k)) :
    ∀ i, i < N → (fun j => if j = pk then Value.bool (ok (R k)) else f j) i = .bool (Pl.onT ok P R ((i : Int) + 1) (k + 1)) := fun i hi => by
  show (if i = pk then _ else _) = Value.bool (if P k == ((i : Int) + 1) then _ else _)
  by_cases e : i = pk
  · subst e
    rw [if_pos rfl, hp]
    simp
  · have e2 : (P k == ((i : Int) + 1)) = false := by rw [beq_eq_false_iff_ne, hp]; omega
    rw [if_neg e, e2, h i hi]
    rfl

theorem cell_mid (W : World) (c : Array Value) (t : TypeId) (o2 : Obj) (i : Nat) (v : Value) (n : Nat) (hn : n = W.heap.size) (hv : c[i]? = some v) : (((W.alloc (.cells c t)).alloc o2).drew).cell? ⟨n, i, none⟩ = some v := by
  subst hn
  exact keeps_alloc _ _ _ _ (by rw [World.cell?_alloc_new, hv])

def JPost (n : Nat) (K : Int) (N : Nat) (I V : Nat → ByteArray) (li : Nat) (CP : Nat → Int) (lc : Nat) (ok : Int → Bool) (P R : Nat → Int) (w : World) (e : Ending) (w' : World) : Prop :=
  e = .returned (.agg #[.int .i64 (Pl.dcount V n : Nat), .int .i64 K, .bool (Pl.allIn I li V n), .int .i8 0, .bool (Pl.term ok CP lc P R n N), .int .i8 0]) ∧ Below w.heap.size w w'

set_option maxRecDepth 100000 in
set_option maxHeartbeats 4000000 in
/-- scenario.Judge. -/
theorem judge43_any (a : Option Addr) (n c b : Nat) (P : Nat → Int) (V : Nat → ByteArray) (R S : Nat → Int) (K : Int) (fb N : Nat) (CP : Nat → Int) (lc : Nat) (p1 p2 : Nat) (lo hi : Int) (pv : Nat) (a1 : Option Addr) (li c1 b1 : Nat) (I : Nat → ByteArray) (w : World)
    (hn : n ≤ 1048576) (hD : Decs w a n b 0 P V R S) (hv : ∀ j, j < n → (V j).size ≤ maxLen) (hP : ∀ j, j < n → 1 ≤ P j ∧ P j ≤ (N : Int)) (hN : N ≤ 65536)
    (hF : ∀ i, i < N → w.cell? ⟨fb, i, none⟩ = some (.bool (Pl.crashed CP ((i : Int) + 1) lc)))
    (h1 : w.cell? ⟨p1, 0, none⟩ = some (.int .i64 lo)) (h2 : w.cell? ⟨p2, 0, none⟩ = some (.int .i64 hi)) (h3 : w.cell? ⟨pv, 0, none⟩ = some (.slice a1 li c1)) (hli : li ≤ 1048576) (hI : Strs w a1 li b1 0 I) :
    Calls Try.prog 43 #[.slice a n c, .int .i64 K, .slice (some ⟨fb, 0, none⟩) N N, .func (.func 51) #[] #[.pointer (some ⟨p1, 0, none⟩), .pointer (some ⟨p2, 0, none⟩)], .func (.func 48) #[] #[.pointer (some ⟨pv, 0, none⟩)]] w
      (JPost n K N I V li CP lc (Pl.inR lo hi) P R w) := by
  have hmk := run_make_any (P := Try.prog) 70 4 (.bool false) 1 1 Try.underlying70 info4 N (by omega) (by omega)
  go_enter Try.func43, Try.ntmps43
  go_wp2
  go_loopw [12, 14, 22] (fun u12 _ u22 wr => ∃ (k : Nat) (f g : Nat → Value), k ≤ n ∧ wr.rowIs w.heap.size 33 6 g ∧ wr.rowIs (w.heap.size + 1) 4 N f ∧ (∀ i, i < N → f i = .bool (Pl.onT (Pl.inR lo hi) P R ((i : Int) + 1) k)) ∧ Below w.heap.size w wr ∧ u12 = .bool (Pl.allIn I li V k) ∧ u22 = .int .i64 k) (fun _ _ i _ => n - (intOf i).toNat)
  case atStart =>
    obtain ⟨f, hf⟩ := rowIs_made (w.alloc (.cells #[.int .i64 0, .int .i64 0, .bool false, .int .i8 0, .bool false, .int .i8 0] 33)) #[.bool false] N 4
    obtain ⟨g, hg⟩ := rowIs_few w #[.int .i64 0, .int .i64 0, .bool false, .int .i8 0, .bool false, .int .i8 0] 33
    rw [World.size_alloc] at hf
    have hf2 : ((w.alloc (.cells #[.int .i64 0, .int .i64 0, .bool false, .int .i8 0, .bool false, .int .i8 0] 33)).alloc (.cells (madeCells #[.bool false] N) 4)).rowIs (w.heap.size + 1) 4 N (fun _ => .bool false) := by
      have h := World.rowIs_made (w.alloc (.cells #[.int .i64 0, .int .i64 0, .bool false, .int .i8 0, .bool false, .int .i8 0] 33)) (.bool false) N 4
      rwa [World.size_alloc] at h
    exact ⟨0, _, g, by omega, hg.alloc _, hf2, fun i hi => rfl, ((Below.refl _ _).alloc (Nat.le_refl _) _).alloc (by simp) _, rfl, rfl⟩
  case round =>
    obtain ⟨k, f, g, hk, hrg, hrf, hdec, hbel, rfl, rfl⟩ := hrel
    have HD : Hid (∀ i, i < N → f i = .bool (Pl.onT (Pl.inR lo hi) P R ((i : Int) + 1) k)) := hdec
    have HG : Hid (wr.rowIs w.heap.size 33 6 g) := hrg
    have HF : Hid (wr.rowIs (w.heap.size + 1) 4 N f) := hrf
    have HB : Hid (Below w.heap.size w wr) := hbel
    have hkp := keeps_of_below hbel
    clear hdec hbel
    by_cases hlt : k < n
    · have d0 := hkp _ _ (hD.c0 k hlt)
      have d1 := hkp _ _ (hD.c1 k hlt)
      have d2 := hkp _ _ (hD.c2 k hlt)
      have d3 := hkp _ _ (hD.c3 k hlt)
      simp only [Nat.zero_add] at d0 d1 d2 d3
      have q1 := hkp _ _ h1
      have q2 := hkp _ _ h2
      have HI : Hid (Strs w a1 li b1 0 I) := hI
      have H3 : Hid (w.cell? ⟨pv, 0, none⟩ = some (.slice a1 li c1)) := h3
      obtain ⟨pp1, pp2⟩ := hP k hlt
      obtain ⟨pk, hpk⟩ : ∃ pk : Nat, P k = (pk : Int) + 1 := ⟨(P k - 1).toNat, by omega⟩
      have hpkN : pk < N := by omega
      have HP : Hid (P k = (pk : Int) + 1) := hpk
      rw [hpk] at d0
      obtain rfl := hD.addr (by omega)
      have r0 := hrf.cell hpkN
      have z0 := hrf.frozen pk
      have lt0 := hrf.lt
      have HX : Hid (∀ j, j < n → (V j).size ≤ maxLen) := hv
      clear hD hv hP hF h1 h2 h3 hI hkp hpk pp1 pp2 hrg hrf
      have hk0 : (0 : Int) ≤ (pk : Int) := by omega
      have hk1 : (pk : Int) < (N : Int) := by omega
      have hne : w.heap.size + 1 ≠ wr.heap.size := by omega
      have lt1 : w.heap.size < wr.heap.size := by omega
      have lt2 : w.heap.size + 1 < wr.heap.size + 1 := by omega
      have hw1 : IntKind.i64.wrap (pk : Int) = (pk : Int) := by rw [IntKind.wrap_i64]; omega
      have hw2 : IntKind.i64.wrap ((pk : Int) + 1 - 1) = (pk : Int) := by rw [IntKind.wrap_i64]; omega
      go_wp2
      go_region_held3 (fun w' => w'.cell? ⟨wr.heap.size, 0, none⟩ = some (.int .i64 (↑pk + 1)) ∧ w'.cell? ⟨wr.heap.size, 1, none⟩ = some (.string (V k)) ∧ w'.cell? ⟨wr.heap.size, 2, none⟩ = some (.int .i64 (R k)) ∧ w'.cell? ⟨wr.heap.size, 3, none⟩ = some (.int .i64 (S k)))
        (first | (go_keep; done) | (go_split_ands; refine ⟨?_, ?_, ?_, ?_⟩ <;> exact cell_mid _ _ _ _ _ _ _ (by simp) rfl))
        ((go_at_call 51; refine (roundClosure_any p1 p2 lo hi _ _ _ _ _ (by exact ((keeps_alloc _ _).trans (keeps_drew _)) _ _ q1) (by exact ((keeps_alloc _ _).trans (keeps_drew _)) _ _ q2)).mono ?_; rintro e w2 ⟨rfl, c2, rfl⟩))
      have HW : Hid (∀ (v : Value) (o1 o2 : Obj), Below w.heap.size w (((wr.setCell ⟨w.heap.size + 1, pk, none⟩ v).alloc o1).alloc o2).drew) := fun v o1 o2 =>
        (((HB.out.setCell (Nat.le_succ _) _).alloc (by simp; omega) _).alloc (by simp; omega) _).drew
      cases hall : Pl.allIn I li V k
      · have HA : Hid (Pl.allIn I li V (k + 1) = false) := by
          show Pl.allIn I li V (k + 1) = false
          rw [Pl.allIn, hall]; rfl
        go_wp2
        go_roundw
        case rel => exact ⟨k + 1, _, g, by omega, (((HG.out.setOther (by simp) _).alloc _).alloc _).drew, (((HF.out.set pk _).alloc _).alloc _).drew, dec_step HP.out HD.out, HW.out _ _ _, by rw [HA.out], by go_num⟩
        case measure => simp [intOf]; omega
      · have HA : Hid (Pl.allIn I li V (k + 1) = Pl.seen I (V k) li) := by
          show Pl.allIn I li V (k + 1) = _
          rw [Pl.allIn, hall]; rfl
        go_wp2_with fail
        refine (someClosure_any pv a1 li c1 b1 0 I (V k) _ hli (by exact keeps_of_below (HW.out _ _ _) _ _ H3.out) (by exact HI.out.mono (keeps_of_below (HW.out _ _ _)))).mono ?_
        rintro e w2 ⟨rfl, rfl⟩
        go_wp2
        go_roundw
        case rel => exact ⟨k + 1, _, g, by omega, (((HG.out.setOther (by simp) _).alloc _).alloc _).drew, (((HF.out.set pk _).alloc _).alloc _).drew, dec_step HP.out HD.out, HW.out _ _ _, by rw [HA.out], by go_num⟩
        case measure => simp [intOf]; omega
    · obtain rfl : k = n := by omega
      have hF' : ∀ i, i < N → wr.cell? ⟨fb, i, none⟩ = some (.bool (Pl.crashed CP ((i : Int) + 1) lc)) := fun i hi => hkp _ _ (hF i hi)
      have hdc : ∀ i, i < N → wr.cell? ⟨w.heap.size + 1, i, none⟩ = some (.bool (Pl.onT (Pl.inR lo hi) P R ((i : Int) + 1) k)) := fun i hi => by rw [hrf.cell hi, HD.out i hi]
      have HDD : Hid (Decs wr a k b 0 P V R S) := hD.mono hkp
      have HX : Hid (∀ j, j < k → (V j).size ≤ maxLen) := hv
      clear hD hv hP hF h1 h2 h3 hI hkp hrg hrf
      go_wp2
      go_loop [15, 16, 44] (fun t _ i => ∃ j : Nat, j ≤ N ∧ t = .bool (Pl.term (Pl.inR lo hi) CP lc P R k j) ∧ i = .int .i64 j) (fun _ _ i => N - (intOf i).toNat)
      case atStart => exact ⟨0, by omega, rfl, rfl⟩
      case round =>
        obtain ⟨j, hj, rfl, rfl⟩ := hrel
        have HT : Hid (Pl.term (Pl.inR lo hi) CP lc P R k (j + 1) = (Pl.term (Pl.inR lo hi) CP lc P R k j && (Pl.crashed CP ((j : Int) + 1) lc || Pl.onT (Pl.inR lo hi) P R ((j : Int) + 1) k))) := rfl
        by_cases hlj : j < N
        · have e1 := hF' j hlj
          have e2 := hdc j hlj
          clear hF' hdc
          generalize Pl.term (Pl.inR lo hi) CP lc P R k j = t0 at *
          generalize Pl.crashed CP ((j : Int) + 1) lc = t1 at *
          generalize Pl.onT (Pl.inR lo hi) P R ((j : Int) + 1) k = t2 at *
          cases t0
          · go_wp2
            go_round
            case rel => exact ⟨j + 1, by omega, by rw [HT.out]; rfl, by go_num⟩
            case measure => simp [intOf]; omega
          cases t1
          · go_wp2
            go_round
            case rel => exact ⟨j + 1, by omega, by rw [HT.out]; simp, by go_num⟩
            case measure => simp [intOf]; omega
          · go_wp2
            go_round
            case rel => exact ⟨j + 1, by omega, by rw [HT.out]; rfl, by go_num⟩
            case measure => simp [intOf]; omega
        · obtain rfl : j = N := by omega
          clear hF' hdc HT
          go_wp2_with fail
          refine (distinct_any _ _ _ _ _ _ _ _ _ hn HDD.out HX.out).mono ?_
          rintro e w2 ⟨rfl, hb2⟩
          have hr2 := rowIs_below HG.out hb2 HG.out.lt
          have y0 := hr2.cell (i := 0) (by omega)
          have y1 := hr2.cell (i := 1) (by omega)
          have y2 := hr2.cell (i := 2) (by omega)
          have y3 := hr2.cell (i := 3) (by omega)
          have y4 := hr2.cell (i := 4) (by omega)
          have y5 := hr2.cell (i := 5) (by omega)
          have z0 := hr2.frozen 0
          have z1 := hr2.frozen 1
          have z2 := hr2.frozen 2
          have z3 := hr2.frozen 3
          have z4 := hr2.frozen 4
          have z5 := hr2.frozen 5
          clear hr2
          go_wp2
          refine bodyPost_ret (v := .agg #[.int .i64 (Pl.dcount V k : Nat), .int .i64 K, .bool (Pl.allIn I li V k), .int .i8 0, .bool (Pl.term (Pl.inR lo hi) CP lc P R k j), .int .i8 0]) (by simp [results, Try.results43, go_sem, y0, y1, y2, y3, y4, y5]) rfl ⟨rfl, ?_⟩
          have hsz := HB.out.size
          exact (((((((HB.out.trans (hb2.mono hsz)).setCell (Nat.le_refl _) _).setCell (Nat.le_refl _) _).setCell (Nat.le_refl _) _).setCell (Nat.le_refl _) _).setCell (Nat.le_refl _) _).setCell (Nat.le_refl _) _)
end Go.Proofs.Qxb6613846a
