import Derived.Test.Qxb6613846aRows
import Derived.Test.Qxb6613846aIn
import Derived.WalkKit
import Derived.WalkSpells
import Derived.WalkLawsBesides
import Derived.LoopTactic
import Derived.RegionTactic
import Derived.Laws.Pointers
import Derived.Outline
import Derived.RowKit3
import Derived.Test.Qxb6613846aMk
import Derived.Test.Qxb6613846aF2
import Derived.Deep.RegionHeld3
import Derived.Deep.DrawnRows
namespace Go.Proofs.Qxb6613846a
open Go.RowKit
attribute [local go_sem ↓] Go.wp_at_zero Go.wp_at_succ

/-- The crashes as copied: what is read of them is the process. -/
structure Crw (w : World) (a : Option Addr) (n b : Nat) (CP : Nat → Int) : Prop where
  addr : 0 < n → a = some ⟨b, 0, none⟩
  cell : ∀ i, i < n → ∃ (r : Int) (ra : Option Addr) (rn rc : Nat), w.cell? ⟨b, 0 + i * 3, none⟩ = some (.int .i64 (CP i)) ∧ w.cell? ⟨b, 0 + i * 3 + 1, none⟩ = some (.int .i64 r) ∧ w.cell? ⟨b, 0 + i * 3 + 2, none⟩ = some (.slice ra rn rc)
theorem Crw.mono {w w' : World} {a : Option Addr} {n b : Nat} {CP : Nat → Int} (h : Crw w a n b CP) (k : Keeps w w') : Crw w' a n b CP :=
  ⟨h.addr, fun i hi => by
    obtain ⟨r, ra, rn, rc, h0, h1, h2⟩ := h.cell i hi
    exact ⟨r, ra, rn, rc, k _ _ h0, k _ _ h1, k _ _ h2⟩⟩

/-- Where a scenario's slices lie. -/
structure Cp where
  a1 : Option Addr
  c1 : Nat
  b1 : Nat
  a2 : Option Addr
  c2 : Nat
  b2 : Nat
  a3 : Option Addr
  n3 : Nat
  c3 : Nat
  a4 : Option Addr
  n4 : Nat
  c4 : Nat

/-- A scenario of form F lies in block sb. -/
structure Sc (X : Inp) (Y : Cp) (sb : Nat) (F : Int) (w : World) : Prop where
  c0 : w.cell? ⟨sb, 0, none⟩ = some (.int .i64 F)
  c1 : w.cell? ⟨sb, 1, none⟩ = some (.int .i64 X.N)
  c2 : w.cell? ⟨sb, 2, none⟩ = some (.int .i64 X.T)
  c3 : w.cell? ⟨sb, 3, none⟩ = some (.int .i64 X.K)
  c4 : w.cell? ⟨sb, 4, none⟩ = some (.int .i64 X.M)
  c5 : w.cell? ⟨sb, 5, none⟩ = some (.int .i64 X.L)
  c6 : w.cell? ⟨sb, 6, none⟩ = some (.slice Y.a1 X.li Y.c1)
  c7 : w.cell? ⟨sb, 7, none⟩ = some (.slice Y.a2 X.lc Y.c2)
  c8 : w.cell? ⟨sb, 8, none⟩ = some (.int .i64 X.R)
  c9 : w.cell? ⟨sb, 9, none⟩ = some (.slice Y.a3 Y.n3 Y.c3)
  c10 : w.cell? ⟨sb, 10, none⟩ = some (.slice Y.a4 Y.n4 Y.c4)
  i : Strs w Y.a1 X.li Y.b1 0 X.I
  c : Crw w Y.a2 X.lc Y.b2 X.CP
theorem Sc.mono {X : Inp} {Y : Cp} {sb : Nat} {F : Int} {w w' : World} (h : Sc X Y sb F w) (k : Keeps w w') : Sc X Y sb F w' :=
  ⟨k _ _ h.c0, k _ _ h.c1, k _ _ h.c2, k _ _ h.c3, k _ _ h.c4, k _ _ h.c5, k _ _ h.c6, k _ _ h.c7, k _ _ h.c8, k _ _ h.c9, k _ _ h.c10, h.i.mono k, h.c.mono k⟩

def ScPost (X : Inp) (w : World) (e : Ending) (w' : World) : Prop := (∃ (Y : Cp) (sb : Nat), e = .returned (.pointer (some ⟨sb, 0, none⟩)) ∧ Sc X Y sb X.form w') ∧ Below w.heap.size w w'

theorem rowIs_below {w w' : World} {b : Nat} {t : TypeId} {n : Nat} {f : Nat → Value} {B : Nat} (h : w.rowIs b t n f) (hb : Below B w w') (hB : b < B) : w'.rowIs b t n f := h.of_block (hb.block b hB)

/-- The first k crashes have been laid. -/
structure Cr3 (f : Nat → Value) (k : Nat) (P : Nat → Int) : Prop where
  c0 : ∀ i, i < k → f (i * 3) = .int .i64 (P i)
  c1 : ∀ i, i < k → ∃ r : Int, f (i * 3 + 1) = .int .i64 r
  c2 : ∀ i, i < k → ∃ (a : Option Addr) (n c : Nat), f (i * 3 + 2) = .slice a n c
theorem Cr3.step {f : Nat → Value} {k : Nat} {P : Nat → Int} (h : Cr3 f k P) (r : Int) (a : Option Addr) (n c : Nat) :
    Cr3 (fun j => if j = k * 3 + 2 then .slice a n c else (fun j => if j = k * 3 + 1 then .int .i64 r else (fun j => if j = k * 3 then .int .i64 (P k) else f j) j) j) (k + 1) P := by
  refine ⟨fun i hi => ?_, fun i hi => ?_, fun i hi => ?_⟩
  all_goals
    rcases Nat.lt_or_ge i k with h1 | h1
    · have e0 := h.c0 i h1
      have e1 := h.c1 i h1
      have e2 := h.c2 i h1
      dsimp only
      rw [if_neg (by omega), if_neg (by omega), if_neg (by omega)]
      assumption
    · obtain rfl : i = k := by omega
      simp
theorem Cr3.crw {f : Nat → Value} {k : Nat} {P : Nat → Int} (h : Cr3 f k P) {w : World} {b : Nat} {t : TypeId} (hr : w.rowIs b t (k * 3) f) : Crw w (some ⟨b, 0, none⟩) k b P :=
  ⟨fun _ => rfl, fun i hi => by
    obtain ⟨r, hr1⟩ := h.c1 i hi
    obtain ⟨ra, rn, rc, hr2⟩ := h.c2 i hi
    refine ⟨r, ra, rn, rc, ?_, ?_, ?_⟩
    · rw [Nat.zero_add, hr.cell (by omega), h.c0 i hi]
    · rw [Nat.zero_add, hr.cell (by omega), hr1]
    · rw [Nat.zero_add, hr.cell (by omega), hr2]⟩

theorem info68 : (Try.prog.info? 68).map (fun i => (i.zero, i.size, i.bytes)) = some (some (.agg #[.int .i64 0, .int .i64 0, .slice none 0 0]), 3, 40) := by kernel_rfl


theorem keeps_drew (w : World) : Keeps w w.drew := fun _ _ h => h
theorem box10 {W W' : World} {b : Nat} {v0 v1 v2 v3 v4 v5 v6 v7 v8 v9 : Value} (k : Keeps W W') (h : W.cell? ⟨b, 0, none⟩ = some v0 ∧ W.cell? ⟨b, 1, none⟩ = some v1 ∧ W.cell? ⟨b, 2, none⟩ = some v2 ∧ W.cell? ⟨b, 3, none⟩ = some v3 ∧ W.cell? ⟨b, 4, none⟩ = some v4 ∧ W.cell? ⟨b, 5, none⟩ = some v5 ∧ W.cell? ⟨b, 6, none⟩ = some v6 ∧ W.cell? ⟨b, 8, none⟩ = some v7 ∧ W.cell? ⟨b, 9, none⟩ = some v8 ∧ W.cell? ⟨b, 10, none⟩ = some v9) :
    W'.cell? ⟨b, 0, none⟩ = some v0 ∧ W'.cell? ⟨b, 1, none⟩ = some v1 ∧ W'.cell? ⟨b, 2, none⟩ = some v2 ∧ W'.cell? ⟨b, 3, none⟩ = some v3 ∧ W'.cell? ⟨b, 4, none⟩ = some v4 ∧ W'.cell? ⟨b, 5, none⟩ = some v5 ∧ W'.cell? ⟨b, 6, none⟩ = some v6 ∧ W'.cell? ⟨b, 8, none⟩ = some v7 ∧ W'.cell? ⟨b, 9, none⟩ = some v8 ∧ W'.cell? ⟨b, 10, none⟩ = some v9 := by
  obtain ⟨h0, h1, h2, h3, h4, h5, h6, h7, h8, h9⟩ := h
  exact ⟨k _ _ h0, k _ _ h1, k _ _ h2, k _ _ h3, k _ _ h4, k _ _ h5, k _ _ h6, k _ _ h7, k _ _ h8, k _ _ h9⟩

set_option maxRecDepth 100000 in
set_option maxHeartbeats 4000000 in
/-- zzScenario. -/
theorem scenario_any (X : Inp) (w : World) (hX : Lies X w) (hs : Short X) :
    Calls Try.prog 12 #[.agg #[.int .i64 X.form, .int .i64 X.N, .int .i64 X.T, .int .i64 X.K, .int .i64 X.M, .int .i64 X.L, .slice X.ai X.li X.ci, .slice X.ac X.lc X.cc, .int .i64 X.R, .slice X.ao X.lo X.co, .slice X.aa X.la X.ca]] w (ScPost X w) := by
  obtain ⟨form, N, T, K, M, L, R, ai, li, ci, bi, oi, I, ac, lc, cc, bc, oc, CP, CR, CA, CL, CC, CB, CO, CZ, ao, lo, co, bo, oo, OP, OR, OV, aa, la, ca, ba, oa, AP, AR, AV, ad, ld, cd, bd, od, DP, DV, DR, DS⟩ := X
  obtain ⟨hXi, hXc, hXo, hXa, hXd⟩ := hX
  obtain ⟨si, sc, scl, so, sa, sd⟩ := hs
  dsimp only at hXi hXc hXo hXa hXd si sc scl so sa sd ⊢
  clear hXd sd
  have hq := fun w a n c => run_neq_slice_nil_any (P := Try.prog) w 23 59 a n c 0 0 Try.underlying23
  cases ac with
  | none =>
    go_enter Try.func12, Try.ntmps12
    go_wp2
    obtain rfl : lc = 0 := by
      rcases Nat.eq_zero_or_pos lc with h | h
      · exact h
      · cases hXc.addr h
    have hkp : Keeps w (w.alloc (.cells #[.int .i64 form, .int .i64 N, .int .i64 T, .int .i64 K, .int .i64 M, .int .i64 L, .slice ai li ci, .slice none 0 cc, .int .i64 R, .slice ao lo co, .slice aa la ca] 26)) := keeps_alloc _ _
    have hS0 : ((w.alloc (.cells #[.int .i64 form, .int .i64 N, .int .i64 T, .int .i64 K, .int .i64 M, .int .i64 L, .slice ai li ci, .slice none 0 cc, .int .i64 R, .slice ao lo co, .slice aa la ca] 26))).cell? ⟨w.heap.size, 0, none⟩ = some (.int .i64 form) ∧ ((w.alloc (.cells #[.int .i64 form, .int .i64 N, .int .i64 T, .int .i64 K, .int .i64 M, .int .i64 L, .slice ai li ci, .slice none 0 cc, .int .i64 R, .slice ao lo co, .slice aa la ca] 26))).cell? ⟨w.heap.size, 1, none⟩ = some (.int .i64 N) ∧ ((w.alloc (.cells #[.int .i64 form, .int .i64 N, .int .i64 T, .int .i64 K, .int .i64 M, .int .i64 L, .slice ai li ci, .slice none 0 cc, .int .i64 R, .slice ao lo co, .slice aa la ca] 26))).cell? ⟨w.heap.size, 2, none⟩ = some (.int .i64 T) ∧ ((w.alloc (.cells #[.int .i64 form, .int .i64 N, .int .i64 T, .int .i64 K, .int .i64 M, .int .i64 L, .slice ai li ci, .slice none 0 cc, .int .i64 R, .slice ao lo co, .slice aa la ca] 26))).cell? ⟨w.heap.size, 3, none⟩ = some (.int .i64 K) ∧ ((w.alloc (.cells #[.int .i64 form, .int .i64 N, .int .i64 T, .int .i64 K, .int .i64 M, .int .i64 L, .slice ai li ci, .slice none 0 cc, .int .i64 R, .slice ao lo co, .slice aa la ca] 26))).cell? ⟨w.heap.size, 4, none⟩ = some (.int .i64 M) ∧ ((w.alloc (.cells #[.int .i64 form, .int .i64 N, .int .i64 T, .int .i64 K, .int .i64 M, .int .i64 L, .slice ai li ci, .slice none 0 cc, .int .i64 R, .slice ao lo co, .slice aa la ca] 26))).cell? ⟨w.heap.size, 5, none⟩ = some (.int .i64 L) ∧ ((w.alloc (.cells #[.int .i64 form, .int .i64 N, .int .i64 T, .int .i64 K, .int .i64 M, .int .i64 L, .slice ai li ci, .slice none 0 cc, .int .i64 R, .slice ao lo co, .slice aa la ca] 26))).cell? ⟨w.heap.size, 6, none⟩ = some (.slice ai li ci) ∧ ((w.alloc (.cells #[.int .i64 form, .int .i64 N, .int .i64 T, .int .i64 K, .int .i64 M, .int .i64 L, .slice ai li ci, .slice none 0 cc, .int .i64 R, .slice ao lo co, .slice aa la ca] 26))).cell? ⟨w.heap.size, 8, none⟩ = some (.int .i64 R) ∧ ((w.alloc (.cells #[.int .i64 form, .int .i64 N, .int .i64 T, .int .i64 K, .int .i64 M, .int .i64 L, .slice ai li ci, .slice none 0 cc, .int .i64 R, .slice ao lo co, .slice aa la ca] 26))).cell? ⟨w.heap.size, 9, none⟩ = some (.slice ao lo co) ∧ ((w.alloc (.cells #[.int .i64 form, .int .i64 N, .int .i64 T, .int .i64 K, .int .i64 M, .int .i64 L, .slice ai li ci, .slice none 0 cc, .int .i64 R, .slice ao lo co, .slice aa la ca] 26))).cell? ⟨w.heap.size, 10, none⟩ = some (.slice aa la ca) := by
      refine ⟨?_, ?_, ?_, ?_, ?_, ?_, ?_, ?_, ?_, ?_⟩ <;> simp [go_sem]
    have HB : Hid (Below w.heap.size w (w.alloc (.cells #[.int .i64 form, .int .i64 N, .int .i64 T, .int .i64 K, .int .i64 M, .int .i64 L, .slice ai li ci, .slice none 0 cc, .int .i64 R, .slice ao lo co, .slice aa la ca] 26))) := (Below.refl _ _).alloc (Nat.le_refl _) _
    clear hXc scl
    generalize (w.alloc (.cells #[.int .i64 form, .int .i64 N, .int .i64 T, .int .i64 K, .int .i64 M, .int .i64 L, .slice ai li ci, .slice none 0 cc, .int .i64 R, .slice ao lo co, .slice aa la ca] 26)) = wr at *
    have HC : Hid (Crw wr none 0 0 CP) := ⟨fun h => absurd h (by omega), fun i hi => absurd hi (by omega)⟩
    go_wp2
    go_region_held3 (fun w' => w'.cell? ⟨w.heap.size, 0, none⟩ = some (.int .i64 form) ∧ w'.cell? ⟨w.heap.size, 1, none⟩ = some (.int .i64 N) ∧ w'.cell? ⟨w.heap.size, 2, none⟩ = some (.int .i64 T) ∧ w'.cell? ⟨w.heap.size, 3, none⟩ = some (.int .i64 K) ∧ w'.cell? ⟨w.heap.size, 4, none⟩ = some (.int .i64 M) ∧ w'.cell? ⟨w.heap.size, 5, none⟩ = some (.int .i64 L) ∧ w'.cell? ⟨w.heap.size, 6, none⟩ = some (.slice ai li ci) ∧ w'.cell? ⟨w.heap.size, 8, none⟩ = some (.int .i64 R) ∧ w'.cell? ⟨w.heap.size, 9, none⟩ = some (.slice ao lo co) ∧ w'.cell? ⟨w.heap.size, 10, none⟩ = some (.slice aa la ca))
      (first | exact box10 (keeps_alloc _ _) hS4 | exact hS4 | exact hS3 | exact hS2 | exact hS0 | go_keep)
      (first
        | (go_at_call 30; refine (values_any _ _ _ _ _ _ _ si (by exact hXi.mono (hkp.trans (keeps_drew _)))).mono ?_; rintro e w2 ⟨⟨a1, c1, b1, rfl, hS1⟩, hb2⟩; have hkp2 := (hkp.trans (keeps_drew _)).trans (keeps_of_below hb2); have hS2 := box10 ((keeps_drew _).trans (keeps_of_below hb2)) hS0; have HS1 : Hid (Strs w2 a1 li b1 0 I) := hS1; clear hS1)
        | (go_at_call_of 37 (Value.slice ao lo co); refine (copyChoices_any _ _ _ _ _ _ _ _ _ so (by exact hXo.mono hkp2)).mono ?_; rintro e w3 ⟨⟨a3, n3, c3, rfl⟩, hb3⟩; have hkp3 := hkp2.trans (keeps_of_below hb3); have hS3 := box10 (keeps_of_below hb3) hS2)
        | (go_at_call_of 37 (Value.slice aa la ca); refine (copyChoices_any _ _ _ _ _ _ _ _ _ sa (by exact hXa.mono hkp3)).mono ?_; rintro e w4 ⟨⟨a4, n4, c4, rfl⟩, hb4⟩; have hS4 := box10 (keeps_of_below hb4) hS3))
    go_wp2
    go_ret
    have hkA := (keeps_of_below hb3).trans ((keeps_of_below hb4).trans (keeps_alloc w4 (.cells #[.int .i64 form, .int .i64 N, .int .i64 T, .int .i64 K, .int .i64 M, .int .i64 L, .slice a1 li c1, .slice none 0 0, .int .i64 R, .slice a3 n3 c3, .slice a4 n4 c4] 48)))
    have hkB := ((keeps_drew wr).trans (keeps_of_below hb2)).trans hkA
    refine ⟨⟨⟨a1, c1, b1, none, 0, 0, a3, n3, c3, a4, n4, c4⟩, w4.heap.size, rfl, ⟨by simp [go_sem], by simp [go_sem], by simp [go_sem], by simp [go_sem], by simp [go_sem], by simp [go_sem], by simp [go_sem], by simp [go_sem], by simp [go_sem], by simp [go_sem], by simp [go_sem], HS1.out.mono hkA, HC.out.mono hkB⟩⟩, ?_⟩
    have z1 := HB.out.size
    have z2 := hb2.size
    have z3 := hb3.size
    have z4 := hb4.size
    simp at z2
    exact ((((HB.out.drew.trans (hb2.mono (by simp; omega))).trans (hb3.mono (by omega))).trans (hb4.mono (by omega))).alloc (by omega) _)
  | some adc =>
    have hmk := run_make_any (P := Try.prog) 45 68 _ 3 40 Try.underlying45 info68 lc (by omega) (by omega)
    go_enter Try.func12, Try.ntmps12
    go_wp2
    go_loopw [4] (fun i wr => ∃ (k : Nat) (f : Nat → Value), k ≤ lc ∧ wr.rowIs (w.heap.size + 1) 68 (lc * 3) f ∧ Cr3 f k CP ∧ Below (w.heap.size + 1) (w.alloc (.cells #[.int .i64 form, .int .i64 N, .int .i64 T, .int .i64 K, .int .i64 M, .int .i64 L, .slice ai li ci, .slice (some adc) lc cc, .int .i64 R, .slice ao lo co, .slice aa la ca] 26)) wr ∧ w.heap.size + 1 < wr.heap.size ∧ i = .int .i64 k) (fun i _ => lc - (intOf i).toNat)
    case atStart =>
      obtain ⟨f, hf⟩ := rowIs_made (w.alloc (.cells #[.int .i64 form, .int .i64 N, .int .i64 T, .int .i64 K, .int .i64 M, .int .i64 L, .slice ai li ci, .slice (some adc) lc cc, .int .i64 R, .slice ao lo co, .slice aa la ca] 26)) #[.int .i64 0, .int .i64 0, .slice none 0 0] (lc * 3) 68
      rw [World.size_alloc] at hf
      exact ⟨0, f, by omega, hf, ⟨fun i hi => absurd hi (by omega), fun i hi => absurd hi (by omega), fun i hi => absurd hi (by omega)⟩, (Below.refl _ _).alloc (by simp) _, by simp, rfl⟩
    case round =>
      obtain ⟨k, f, hk, hrow, hval, hbel, hsz, rfl⟩ := hrel
      have HV : Hid (Cr3 f k CP) := hval
      clear hval
      by_cases hlt : k < lc
      · have hkeep : Keeps w wr := (keeps_alloc _ _).trans (keeps_of_below (hbel.mono (by simp)))
        have hx : wr.cell? ⟨w.heap.size, 7, none⟩ = some (.slice (some adc) lc cc) := by rw [hbel.cell (by show w.heap.size < _; omega)]; simp [go_sem]
        have h0 := hkeep _ _ (hXc.c0 k hlt)
        have h1 := hkeep _ _ (hXc.c1 k hlt)
        have h2 := hkeep _ _ (hXc.c2 k hlt)
        have hin := (hXc.ints k hlt).mono hkeep
        have hcl := scl k hlt
        have hlt2 := hXc.lt hlt
        have hne2 : w.heap.size + 1 ≠ bc := by omega
        obtain rfl := Option.some.inj (hXc.addr (by omega))
        have HI : Hid (Ints wr (CA k) (CL k) (CB k) (CO k) (CZ k)) := hin
        have HR : Hid (wr.rowIs (w.heap.size + 1) 68 (lc * 3) f) := hrow
        have HB : Hid (Below (w.heap.size + 1) (w.alloc (.cells #[.int .i64 form, .int .i64 N, .int .i64 T, .int .i64 K, .int .i64 M, .int .i64 L, .slice ai li ci, .slice (some ⟨bc, oc, none⟩) lc cc, .int .i64 R, .slice ao lo co, .slice aa la ca] 26)) wr) := hbel
        have hk0 : (0 : Int) ≤ (k : Int) := by omega
        have hk1 : (k : Int) < (lc : Int) := by omega
        clear hXi hXc hXo hXa scl hrow hbel hkeep hin
        go_wp2
        go_region_held3 (fun w' => w'.cell? ⟨w.heap.size, 7, none⟩ = some (.slice (some ⟨bc, oc, none⟩) lc cc) ∧ w'.cell? ⟨bc, oc + k * 3, none⟩ = some (.int .i64 (CP k)) ∧ w'.cell? ⟨bc, oc + k * 3 + 1, none⟩ = some (.int .i64 (CR k)) ∧ w'.cell? ⟨bc, oc + k * 3 + 2, none⟩ = some (.slice (CA k) (CL k) (CC k)))
          (first | (go_split_ands; exact ⟨keeps_of_below hb2 _ _ hx, keeps_of_below hb2 _ _ h0, keeps_of_below hb2 _ _ h1, keeps_of_below hb2 _ _ h2⟩) | go_keep)
          ((go_at_call 26; refine (ints_any _ _ _ _ _ _ _ hcl (by exact HI.out.mono (fun _ _ h => h))).mono ?_; rintro e w2 ⟨⟨ra, rn, rc, rfl⟩, hb2⟩; have hrow2 := rowIs_below HR.out.drew hb2 hsz; have r0 := hrow2.cell (i := k * 3) (by omega); have r1 := hrow2.cell (i := k * 3 + 1) (by omega); have r2 := hrow2.cell (i := k * 3 + 2) (by omega); have z0 := hrow2.frozen (k * 3); have z1 := hrow2.frozen (k * 3 + 1); have z2 := hrow2.frozen (k * 3 + 2); have g0 := keeps_of_below hb2 _ _ hx; have g1 := keeps_of_below hb2 _ _ h0; have g2 := keeps_of_below hb2 _ _ h1; have g3 := keeps_of_below hb2 _ _ h2))
        go_wp2
        go_roundw
        case rel =>
          refine ⟨k + 1, _, by omega, ((hrow2.set _ _).set _ _).set _ _, HV.out.step (CR k) ra rn rc, (((HB.out.drew.trans (hb2.mono (Nat.le_of_lt hsz))).setCell (Nat.le_refl _) _).setCell (Nat.le_refl _) _).setCell (Nat.le_refl _) _, ?_, by go_num⟩
          have hs2 := hb2.size
          simp at hs2 ⊢
          omega
        case measure => simp [intOf]; omega
      · obtain rfl : k = lc := by omega
        have hkp : Keeps w wr := (keeps_alloc _ _).trans (keeps_of_below (hbel.mono (by simp)))
        have hS0 : wr.cell? ⟨w.heap.size, 0, none⟩ = some (.int .i64 form) ∧ wr.cell? ⟨w.heap.size, 1, none⟩ = some (.int .i64 N) ∧ wr.cell? ⟨w.heap.size, 2, none⟩ = some (.int .i64 T) ∧ wr.cell? ⟨w.heap.size, 3, none⟩ = some (.int .i64 K) ∧ wr.cell? ⟨w.heap.size, 4, none⟩ = some (.int .i64 M) ∧ wr.cell? ⟨w.heap.size, 5, none⟩ = some (.int .i64 L) ∧ wr.cell? ⟨w.heap.size, 6, none⟩ = some (.slice ai li ci) ∧ wr.cell? ⟨w.heap.size, 8, none⟩ = some (.int .i64 R) ∧ wr.cell? ⟨w.heap.size, 9, none⟩ = some (.slice ao lo co) ∧ wr.cell? ⟨w.heap.size, 10, none⟩ = some (.slice aa la ca) := by
          refine ⟨?_, ?_, ?_, ?_, ?_, ?_, ?_, ?_, ?_, ?_⟩ <;> (rw [hbel.cell (by show w.heap.size < _; omega)]; simp [go_sem])
        have hx : wr.cell? ⟨w.heap.size, 7, none⟩ = some (.slice (some adc) k cc) := by rw [hbel.cell (by show w.heap.size < _; omega)]; simp [go_sem]
        have HC : Hid (Crw wr (some ⟨w.heap.size + 1, 0, none⟩) k (w.heap.size + 1) CP) := HV.out.crw hrow
        have hbw : Below w.heap.size w wr := ((Below.refl _ _).alloc (Nat.le_refl _) _).trans (hbel.mono (by omega))
        have HB : Hid (Below w.heap.size w wr) := hbw
        clear hXc scl hrow hbel hbw HV
        go_wp2
        go_region_held3 (fun w' => w'.cell? ⟨w.heap.size, 0, none⟩ = some (.int .i64 form) ∧ w'.cell? ⟨w.heap.size, 1, none⟩ = some (.int .i64 N) ∧ w'.cell? ⟨w.heap.size, 2, none⟩ = some (.int .i64 T) ∧ w'.cell? ⟨w.heap.size, 3, none⟩ = some (.int .i64 K) ∧ w'.cell? ⟨w.heap.size, 4, none⟩ = some (.int .i64 M) ∧ w'.cell? ⟨w.heap.size, 5, none⟩ = some (.int .i64 L) ∧ w'.cell? ⟨w.heap.size, 6, none⟩ = some (.slice ai li ci) ∧ w'.cell? ⟨w.heap.size, 8, none⟩ = some (.int .i64 R) ∧ w'.cell? ⟨w.heap.size, 9, none⟩ = some (.slice ao lo co) ∧ w'.cell? ⟨w.heap.size, 10, none⟩ = some (.slice aa la ca))
          (first | exact box10 (keeps_alloc _ _) hS4 | exact hS4 | exact hS3 | exact hS2 | exact hS0 | go_keep)
          (first
            | (go_at_call 30; refine (values_any _ _ _ _ _ _ _ si (by exact hXi.mono (hkp.trans (keeps_drew _)))).mono ?_; rintro e w2 ⟨⟨a1, c1, b1, rfl, hS1⟩, hb2⟩; have hkp2 := (hkp.trans (keeps_drew _)).trans (keeps_of_below hb2); have hS2 := box10 ((keeps_drew _).trans (keeps_of_below hb2)) hS0; have HS1 : Hid (Strs w2 a1 li b1 0 I) := hS1; clear hS1)
            | (go_at_call_of 37 (Value.slice ao lo co); refine (copyChoices_any _ _ _ _ _ _ _ _ _ so (by exact hXo.mono hkp2)).mono ?_; rintro e w3 ⟨⟨a3, n3, c3, rfl⟩, hb3⟩; have hkp3 := hkp2.trans (keeps_of_below hb3); have hS3 := box10 (keeps_of_below hb3) hS2)
            | (go_at_call_of 37 (Value.slice aa la ca); refine (copyChoices_any _ _ _ _ _ _ _ _ _ sa (by exact hXa.mono hkp3)).mono ?_; rintro e w4 ⟨⟨a4, n4, c4, rfl⟩, hb4⟩; have hS4 := box10 (keeps_of_below hb4) hS3))
        go_wp2
        go_ret
        have hkA := (keeps_of_below hb3).trans ((keeps_of_below hb4).trans (keeps_alloc w4 (.cells #[.int .i64 form, .int .i64 N, .int .i64 T, .int .i64 K, .int .i64 M, .int .i64 L, .slice a1 li c1, .slice (some ⟨w.heap.size + 1, 0, none⟩) k k, .int .i64 R, .slice a3 n3 c3, .slice a4 n4 c4] 48)))
        have hkB := ((keeps_drew wr).trans (keeps_of_below hb2)).trans hkA
        refine ⟨⟨⟨a1, c1, b1, (some ⟨w.heap.size + 1, 0, none⟩), k, (w.heap.size + 1), a3, n3, c3, a4, n4, c4⟩, w4.heap.size, rfl, ⟨by simp [go_sem], by simp [go_sem], by simp [go_sem], by simp [go_sem], by simp [go_sem], by simp [go_sem], by simp [go_sem], by simp [go_sem], by simp [go_sem], by simp [go_sem], by simp [go_sem], HS1.out.mono hkA, HC.out.mono hkB⟩⟩, ?_⟩
        have z1 := HB.out.size
        have z2 := hb2.size
        have z3 := hb3.size
        have z4 := hb4.size
        simp at z2
        exact ((((HB.out.drew.trans (hb2.mono (by simp; omega))).trans (hb3.mono (by omega))).trans (hb4.mono (by omega))).alloc (by omega) _)
end Go.Proofs.Qxb6613846a
