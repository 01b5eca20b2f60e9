import Derived.Test.Qxb6613846aRows
import Derived.Test.Qxb6613846aIn
import Derived.WalkKit
import Derived.WalkSpells
import Derived.WalkLawsBesides
import Derived.LoopTactic
import Derived.RegionTactic
import Derived.Laws.Pointers
import Derived.Outline
import Derived.RowKit3
import Derived.Test.Qxb6613846aPl3
import Derived.Test.Qxb6613846aB8
import Derived.Test.Qxb6613846aB18
import Derived.Test.Qxb6613846aC
import Derived.Test.Qxb6613846aD
import Derived.Test.Qxb6613846aE1
import Derived.Test.Qxb6613846aE2
import Derived.Test.Qxb6613846aE3
import Derived.Test.Qxb6613846aF2
import Derived.Test.Qxb6613846aF3
import Derived.Test.Qxb6613846aG6
namespace Go.Proofs.Qxb6613846a
open Go.RowKit

/-- The scenario's box. -/
structure BoxAt (X : Inp) (b : Nat) (w : World) : Prop where
  c0 : w.cell? ⟨b, 0, none⟩ = some (.int .i64 X.form)
  c1 : w.cell? ⟨b, 1, none⟩ = some (.int .i64 X.N)
  c2 : w.cell? ⟨b, 2, none⟩ = some (.int .i64 X.T)
  c3 : w.cell? ⟨b, 3, none⟩ = some (.int .i64 X.K)
  c4 : w.cell? ⟨b, 4, none⟩ = some (.int .i64 X.M)
  c5 : w.cell? ⟨b, 5, none⟩ = some (.int .i64 X.L)
  c6 : w.cell? ⟨b, 6, none⟩ = some (.slice X.ai X.li X.ci)
  c7 : w.cell? ⟨b, 7, none⟩ = some (.slice X.ac X.lc X.cc)
  c8 : w.cell? ⟨b, 8, none⟩ = some (.int .i64 X.R)
  c9 : w.cell? ⟨b, 9, none⟩ = some (.slice X.ao X.lo X.co)
  c10 : w.cell? ⟨b, 10, none⟩ = some (.slice X.aa X.la X.ca)
theorem BoxAt.mono {X : Inp} {b : Nat} {w w' : World} (h : BoxAt X b w) (k : Keeps w w') : BoxAt X b w' :=
  ⟨k _ _ h.c0, k _ _ h.c1, k _ _ h.c2, k _ _ h.c3, k _ _ h.c4, k _ _ h.c5, k _ _ h.c6, k _ _ h.c7, k _ _ h.c8, k _ _ h.c9, k _ _ h.c10⟩
theorem boxAt_alloc (X : Inp) (w : World) : BoxAt X w.heap.size (w.alloc (.cells #[.int .i64 X.form, .int .i64 X.N, .int .i64 X.T, .int .i64 X.K, .int .i64 X.M, .int .i64 X.L, .slice X.ai X.li X.ci, .slice X.ac X.lc X.cc, .int .i64 X.R, .slice X.ao X.lo X.co, .slice X.aa X.la X.ca] 26)) :=
  ⟨by simp, by simp, by simp, by simp, by simp, by simp, by simp, by simp, by simp, by simp, by simp⟩

theorem below_box {w w' : World} {c : Array Value} {q : Nat} (h : w' = (w.alloc (.cells c 26)).drewN q) : Below w.heap.size w w' := by
  subst h; exact below_drewN' ((Below.refl _ _).alloc (Nat.le_refl _) _) _

def BytesB (X : Inp) (w : World) (e : Ending) (w' : World) : Prop := ∃ bb : Bool, e = .returned (.bool bb) ∧ (bb = true → Short X) ∧ Below w.heap.size w w'
theorem bytes8B (X : Inp) (w : World) (hX : Lies X w) : Calls Try.prog 8 #[.agg #[.int .i64 X.form, .int .i64 X.N, .int .i64 X.T, .int .i64 X.K, .int .i64 X.M, .int .i64 X.L, .slice X.ai X.li X.ci, .slice X.ac X.lc X.cc, .int .i64 X.R, .slice X.ao X.lo X.co, .slice X.aa X.la X.ca], .slice X.ad X.ld X.cd] w (BytesB X w) :=
  (bytes8_any X w hX).mono fun _ _ h => by
    obtain ⟨⟨bb, he, hb⟩, c, hw⟩ := h
    exact ⟨bb, he, hb, below_box (q := 0) hw⟩
theorem bytes18B (X : Inp) (w : World) (hX : Lies X w) : Calls Try.prog 18 #[.agg #[.int .i64 X.form, .int .i64 X.N, .int .i64 X.T, .int .i64 X.K, .int .i64 X.M, .int .i64 X.L, .slice X.ai X.li X.ci, .slice X.ac X.lc X.cc, .int .i64 X.R, .slice X.ao X.lo X.co, .slice X.aa X.la X.ca], .slice X.ad X.ld X.cd] w (BytesB X w) :=
  (bytes18_any X w hX).mono fun _ _ h => by
    obtain ⟨⟨bb, he, hb⟩, c, hw⟩ := h
    exact ⟨bb, he, hb, below_box (q := 0) hw⟩
def NumB (w : World) (e : Ending) (w' : World) : Prop := ∃ r : Int, e = .returned (.int .i64 r) ∧ Below w.heap.size w w'
theorem judgeBytesB (X : Inp) (w : World) (hX : Lies X w) (hs : Short X) : Calls Try.prog 9 #[.agg #[.int .i64 X.form, .int .i64 X.N, .int .i64 X.T, .int .i64 X.K, .int .i64 X.M, .int .i64 X.L, .slice X.ai X.li X.ci, .slice X.ac X.lc X.cc, .int .i64 X.R, .slice X.ao X.lo X.co, .slice X.aa X.la X.ca], .slice X.ad X.ld X.cd] w (NumB w) :=
  (judgeBytes_any X w hX hs).mono fun _ _ h => by
    obtain ⟨⟨r, he⟩, c, hw⟩ := h
    exact ⟨r, he, below_box (q := 0) hw⟩
def DomB (X : Inp) (w : World) (e : Ending) (w' : World) : Prop := ∃ bb : Bool, e = .returned (.bool bb) ∧ (bb = true → Dom X) ∧ Below w.heap.size w w'
theorem domainB (X : Inp) (w : World) (hX : Lies X w) (hs : Short X) : Calls Try.prog 10 #[.agg #[.int .i64 X.form, .int .i64 X.N, .int .i64 X.T, .int .i64 X.K, .int .i64 X.M, .int .i64 X.L, .slice X.ai X.li X.ci, .slice X.ac X.lc X.cc, .int .i64 X.R, .slice X.ao X.lo X.co, .slice X.aa X.la X.ca], .slice X.ad X.ld X.cd] w (DomB X w) :=
  (domain_any X w hX hs).mono fun _ _ h => by
    obtain ⟨⟨bb, he, hb⟩, c, q, hw⟩ := h
    exact ⟨bb, he, hb, below_box hw⟩
def TermB (X : Inp) (plain : Bool) (w : World) (e : Ending) (w' : World) : Prop := e = .returned (.bool (Pl.term (Pl.okOf plain X.R) X.CP X.lc X.DP X.DR X.ld X.N.toNat)) ∧ Below w.heap.size w w'
theorem terminatedB (X : Inp) (plain : Bool) (w : World) (hX : Lies X w) (hs : Short X) (hd : Dom X) : Calls Try.prog 17 #[.agg #[.int .i64 X.form, .int .i64 X.N, .int .i64 X.T, .int .i64 X.K, .int .i64 X.M, .int .i64 X.L, .slice X.ai X.li X.ci, .slice X.ac X.lc X.cc, .int .i64 X.R, .slice X.ao X.lo X.co, .slice X.aa X.la X.ca], .slice X.ad X.ld X.cd, .bool plain] w (TermB X plain w) :=
  (terminated_any X plain w hX hs hd).mono fun _ _ h => by
    obtain ⟨he, c, hw⟩ := h
    exact ⟨he, below_box (q := 0) hw⟩
def EarlyB (X : Inp) (w : World) (e : Ending) (w' : World) : Prop := e = .returned (.int .i8 (if Pl.above (bnd X) X.DR X.ld then 2 else 1)) ∧ Below w.heap.size w w'
theorem earlyB (X : Inp) (w : World) (hX : Lies X w) (hs : Short X) (hd : Dom X) (hw : Wf X) : Calls Try.prog 14 #[.agg #[.int .i64 X.form, .int .i64 X.N, .int .i64 X.T, .int .i64 X.K, .int .i64 X.M, .int .i64 X.L, .slice X.ai X.li X.ci, .slice X.ac X.lc X.cc, .int .i64 X.R, .slice X.ao X.lo X.co, .slice X.aa X.la X.ca], .slice X.ad X.ld X.cd] w (EarlyB X w) :=
  (early_any X w hX hs hd hw).mono fun _ _ h => by
    obtain ⟨he, c, q, hww⟩ := h
    have hsd := Pl.senders_bd X.N X.K X.M X.L hd.n1 hd.n2 hd.k1 hd.l1 hd.m1
    rw [Pl.someLate_eq X.R X.lc _ (by omega) hsd.1] at he
    exact ⟨he, below_box hww⟩
theorem drewN_below {w w' : World} {q : Nat} (h : w' = w.drewN q) : Below w.heap.size w w' := by
  subst h; exact below_drewN' (Below.refl _ _) _
end Go.Proofs.Qxb6613846a
