/-
  The arguments of the two laws, opened: a struct of eleven fields by value, slices of strings, of structs, of structs that hold slices.
-/
import Derived.Test.Qxb6613846aIn
import Derived.Test.Qxb6613846aRows
import Derived.ProofKit
import Derived.Deep.Slices
import Derived.Lib.SmallJoins
import Derived.OpenShut
namespace Go.Proofs.Qxb6613846a
open Go.ChangeShapes Go.WideShapes Go.ChangeAt Go.RowKit Go.Deep

theorem cells3 : Try.prog.cellsOf 3 = 1 := by kernel_rfl
theorem cells9 : Try.prog.cellsOf 9 = 1 := by kernel_rfl
theorem cells22 : Try.prog.cellsOf 22 = 1 := by kernel_rfl
theorem cells23 : Try.prog.cellsOf 23 = 1 := by kernel_rfl
theorem cells24 : Try.prog.cellsOf 24 = 1 := by kernel_rfl
theorem cells26 : Try.prog.cellsOf 26 = 11 := by kernel_rfl
theorem cells57 : Try.prog.cellsOf 57 = 1 := by kernel_rfl
theorem cells59 : Try.prog.cellsOf 59 = 3 := by kernel_rfl
theorem cells82 : Try.prog.cellsOf 82 = 3 := by kernel_rfl
theorem cells84 : Try.prog.cellsOf 84 = 4 := by kernel_rfl

section
variable {H : Type} {enc : TypeId × Value → H} {W : World}

theorem fld {α : Type} {xs : List α} {i : Nat} (hi : i < xs.length) {o : Option α} (h : o = xs[i]?) : ∃ y, o = some y := ⟨_, h.trans (List.getElem?_eq_getElem hi)⟩

/-- A slice: its elements' cells, by the index. -/
theorem open_rows {t e : TypeId} {s fuel : Nat} {v : Value} {x : DataW H × List MemPlace} (ht : Try.prog.underlying t = some (.slice e)) (hce : Try.prog.cellsOf e = s) (hs : 0 < s)
    (h : DataW.trod enc Try.prog W 0 (fun _ => true) true fuel t [v] = some x) :
    ∃ (a : Option Addr) (len cap b o n : Nat), v = .slice a len cap ∧ (0 < len → a = some ⟨b, o, none⟩) ∧
      ∀ i, i < len → ∃ cs y, cs.length = s ∧ (∀ j, j < s → W.cell? ⟨b, o + i * s + j, none⟩ = cs[j]?) ∧ DataW.trod enc Try.prog W 0 (fun _ => true) true n e cs = some y := by
  rcases open_slice ht h with ⟨h0, _⟩ | ⟨a, len, cap, m, n, D, Pl, h0, _, hlc, _, hm, _, hx⟩
  · simp at h0
    exact ⟨none, 0, 0, 0, 0, 0, h0, fun h => absurd h (by omega), fun i hi => absurd hi (by omega)⟩
  · simp at h0
    simp only [if_true] at hm
    rw [hce] at hx
    rcases Nat.eq_zero_or_pos len with hz | hz
    · subst hz
      exact ⟨some a, 0, cap, 0, 0, 0, h0, fun h => absurd h (by omega), fun i hi => absurd hi (by omega)⟩
    · obtain ⟨cs0, hc0, _⟩ := hx 0 (by omega)
      obtain ⟨_, hl0, hcell0⟩ := World.cells?_some hc0
      have hsp : a.spot = none := by
        have h1 := hcell0 0 hs
        rw [List.getElem?_eq_getElem (by omega)] at h1
        simpa [Addr.add] using World.cell?_spot h1
      obtain ⟨b, o, spot⟩ := a
      dsimp only at hsp
      subst hsp
      refine ⟨_, len, cap, b, o, n, h0, fun _ => rfl, fun i hi => ?_⟩
      obtain ⟨cs, hc, hy⟩ := hx i (by omega)
      obtain ⟨_, hl, hcell⟩ := World.cells?_some hc
      refine ⟨cs, _, hl, fun j hj => ?_, hy⟩
      have h1 := hcell j hj
      rw [add_plain, add_plain] at h1
      exact h1

/-- []string. -/
theorem open_strs' {fuel : Nat} {v : Value} {x : DataW H × List MemPlace} (h : DataW.trod enc Try.prog W 0 (fun _ => true) true fuel 22 [v] = some x) :
    ∃ (a : Option Addr) (n c b o : Nat) (I : Nat → ByteArray), v = .slice a n c ∧ Strs W a n b o I := by
  obtain ⟨a, len, cap, b, o, n, hv, ha, hx⟩ := open_rows Try.underlying22 cells9 (by decide) h
  have each : ∀ i, i < len → ∃ s : ByteArray, W.cell? ⟨b, o + i, none⟩ = some (.string s) := fun i hi => by
    obtain ⟨cs, y, hl, hc, hy⟩ := hx i hi
    obtain ⟨s, hcs, _, _⟩ := DataW.trod_string Try.underlying9 hy
    have h0 := hc 0 (by decide)
    rw [hcs, Nat.mul_one, Nat.add_zero] at h0
    exact ⟨s, h0⟩
  obtain ⟨I, hI⟩ := choose_lt each
  exact ⟨a, len, cap, b, o, I, hv, ha, hI⟩

/-- []int. -/
theorem open_ints' {fuel : Nat} {v : Value} {x : DataW H × List MemPlace} (h : DataW.trod enc Try.prog W 0 (fun _ => true) true fuel 57 [v] = some x) :
    ∃ (a : Option Addr) (n c b o : Nat) (Z : Nat → Int), v = .slice a n c ∧ Ints W a n b o Z := by
  obtain ⟨a, len, cap, b, o, n, hv, ha, hx⟩ := open_rows Try.underlying57 cells3 (by decide) h
  have each : ∀ i, i < len → ∃ z : Int, W.cell? ⟨b, o + i, none⟩ = some (.int .i64 z) := fun i hi => by
    obtain ⟨cs, y, hl, hc, hy⟩ := hx i hi
    obtain ⟨z, hcs, _, _⟩ := DataW.trod_int Try.underlying3 hy
    have h0 := hc 0 (by decide)
    rw [hcs, Nat.mul_one, Nat.add_zero] at h0
    exact ⟨z, h0⟩
  obtain ⟨Z, hZ⟩ := choose_lt each
  exact ⟨a, len, cap, b, o, Z, hv, ha, hZ⟩

/-- A struct of one-cell fields: each field's reading. -/
theorem open_fields {t : TypeId} {fs : Array Field} {s fuel : Nat} {cs : List Value} {x : DataW H × List MemPlace} (ht : Try.prog.underlying t = some (.struct fs)) (hs : fs.size = s)
    (h : DataW.trod enc Try.prog W 0 (fun _ => true) true fuel t cs = some x) :
    ∃ n, ∀ (i : Nat) (f : Field), fs[i]? = some f → ∃ y, DataW.trod enc Try.prog W 0 (fun _ => true) true n f.type ((cs.drop f.offset).take (Try.prog.cellsOf f.type)) = some y := by
  obtain ⟨xs, n, _, _, _, hxl, hf⟩ := DataW.trod_struct ht h
  refine ⟨n, fun i f hi => fld ?_ (hf i f hi)⟩
  have : i < fs.size := by
    rcases Nat.lt_or_ge i fs.size with h1 | h1
    · exact h1
    · rw [Array.getElem?_eq_none h1] at hi; cases hi
  omega

theorem at_of {cs : List Value} {off : Nat} {v : Value} (h : (cs.drop off).take 1 = [v]) : cs[off]? = some v := by
  have h1 : ((cs.drop off).take 1)[0]? = some v := by rw [h]; rfl
  rw [List.getElem?_take, if_pos (by decide), List.getElem?_drop, Nat.add_zero] at h1
  exact h1

theorem int_at {n off : Nat} {cs : List Value} {y : DataW H × List MemPlace} (h : DataW.trod enc Try.prog W 0 (fun _ => true) true n 3 ((cs.drop off).take (Try.prog.cellsOf 3)) = some y) :
    ∃ z, cs[off]? = some (.int .i64 z) ∧ z ≤ 9223372036854775807 := by
  obtain ⟨z, hcs, _, hz⟩ := DataW.trod_int Try.underlying3 h
  rw [cells3] at hcs
  exact ⟨z, at_of hcs, (bounds_i64 hz).2⟩

theorem string_at {n off : Nat} {cs : List Value} {y : DataW H × List MemPlace} (h : DataW.trod enc Try.prog W 0 (fun _ => true) true n 9 ((cs.drop off).take (Try.prog.cellsOf 9)) = some y) :
    ∃ s : ByteArray, cs[off]? = some (.string s) ∧ s.size ≤ maxLen := by
  obtain ⟨s, hcs, _, hs⟩ := DataW.trod_string Try.underlying9 h
  rw [cells9] at hcs
  exact ⟨s, at_of hcs, hs⟩

/-- A field of one cell that is there: the reading of its own cell. -/
theorem one_at {n off s : Nat} {t : TypeId} {cs : List Value} {y : DataW H × List MemPlace} (ht : Try.prog.cellsOf t = 1) (hl : cs.length = s) (ho : off < s)
    (h : DataW.trod enc Try.prog W 0 (fun _ => true) true n t ((cs.drop off).take (Try.prog.cellsOf t)) = some y) :
    ∃ v, cs[off]? = some v ∧ DataW.trod enc Try.prog W 0 (fun _ => true) true n t [v] = some y := by
  have h2 : (cs.drop off).take 1 = [cs[off]'(by omega)] := by
    rw [List.drop_eq_getElem_cons (by omega : off < cs.length)]
    rfl
  rw [ht, h2] at h
  exact ⟨_, at_of h2, h⟩

/-- []struct {int; int; string}. -/
theorem open_chs {fuel : Nat} {v : Value} {x : DataW H × List MemPlace} (h : DataW.trod enc Try.prog W 0 (fun _ => true) true fuel 24 [v] = some x) :
    ∃ (a : Option Addr) (n c b o : Nat) (P R : Nat → Int) (V : Nat → ByteArray), v = .slice a n c ∧ Chs W a n b o P R V := by
  obtain ⟨a, len, cap, b, o, n, hv, ha, hx⟩ := open_rows Try.underlying24 cells82 (by decide) h
  have each : ∀ i, i < len → ∃ t : Int × Int × ByteArray, W.cell? ⟨b, o + i * 3, none⟩ = some (.int .i64 t.1) ∧ W.cell? ⟨b, o + i * 3 + 1, none⟩ = some (.int .i64 t.2.1) ∧ W.cell? ⟨b, o + i * 3 + 2, none⟩ = some (.string t.2.2) := fun i hi => by
    obtain ⟨cs, y, hl, hc, hy⟩ := hx i hi
    obtain ⟨m, hf⟩ := open_fields Try.underlying82 rfl hy
    obtain ⟨y0, f0⟩ := hf 0 _ rfl
    obtain ⟨y1, f1⟩ := hf 1 _ rfl
    obtain ⟨y2, f2⟩ := hf 2 _ rfl
    obtain ⟨z0, g0, _⟩ := int_at f0
    obtain ⟨z1, g1, _⟩ := int_at f1
    obtain ⟨z2, g2, _⟩ := string_at f2
    exact ⟨(z0, z1, z2), (hc 0 (by decide)).trans g0, (hc 1 (by decide)).trans g1, (hc 2 (by decide)).trans g2⟩
  obtain ⟨F, hF⟩ := choose_lt each
  exact ⟨a, len, cap, b, o, fun i => (F i).1, fun i => (F i).2.1, fun i => (F i).2.2, hv, ha, fun i hi => (hF i hi).1, fun i hi => (hF i hi).2.1, fun i hi => (hF i hi).2.2⟩

/-- []struct {int; string; int; int}. -/
theorem open_decs {fuel : Nat} {v : Value} {x : DataW H × List MemPlace} (h : DataW.trod enc Try.prog W 0 (fun _ => true) true fuel 27 [v] = some x) :
    ∃ (a : Option Addr) (n c b o : Nat) (P : Nat → Int) (V : Nat → ByteArray) (R S : Nat → Int), v = .slice a n c ∧ Decs W a n b o P V R S ∧ (∀ i, i < n → R i ≤ 9223372036854775807) ∧ ∀ i, i < n → (V i).size ≤ maxLen := by
  obtain ⟨a, len, cap, b, o, n, hv, ha, hx⟩ := open_rows Try.underlying27 cells84 (by decide) h
  have each : ∀ i, i < len → ∃ t : Int × ByteArray × Int × Int, (W.cell? ⟨b, o + i * 4, none⟩ = some (.int .i64 t.1) ∧ W.cell? ⟨b, o + i * 4 + 1, none⟩ = some (.string t.2.1) ∧ W.cell? ⟨b, o + i * 4 + 2, none⟩ = some (.int .i64 t.2.2.1) ∧ W.cell? ⟨b, o + i * 4 + 3, none⟩ = some (.int .i64 t.2.2.2)) ∧ t.2.2.1 ≤ 9223372036854775807 ∧ t.2.1.size ≤ maxLen := fun i hi => by
    obtain ⟨cs, y, hl, hc, hy⟩ := hx i hi
    obtain ⟨m, hf⟩ := open_fields Try.underlying84 rfl hy
    obtain ⟨y0, f0⟩ := hf 0 _ rfl
    obtain ⟨y1, f1⟩ := hf 1 _ rfl
    obtain ⟨y2, f2⟩ := hf 2 _ rfl
    obtain ⟨y3, f3⟩ := hf 3 _ rfl
    obtain ⟨z0, g0, _⟩ := int_at f0
    obtain ⟨z1, g1, k1⟩ := string_at f1
    obtain ⟨z2, g2, k2⟩ := int_at f2
    obtain ⟨z3, g3, _⟩ := int_at f3
    exact ⟨(z0, z1, z2, z3), ⟨(hc 0 (by decide)).trans g0, (hc 1 (by decide)).trans g1, (hc 2 (by decide)).trans g2, (hc 3 (by decide)).trans g3⟩, k2, k1⟩
  obtain ⟨F, hF⟩ := choose_lt each
  exact ⟨a, len, cap, b, o, fun i => (F i).1, fun i => (F i).2.1, fun i => (F i).2.2.1, fun i => (F i).2.2.2, hv,
    ⟨ha, fun i hi => (hF i hi).1.1, fun i hi => (hF i hi).1.2.1, fun i hi => (hF i hi).1.2.2.1, fun i hi => (hF i hi).1.2.2.2⟩, fun i hi => (hF i hi).2.1, fun i hi => (hF i hi).2.2⟩

/-- []struct {int; int; []int}. -/
theorem open_crs {fuel : Nat} {v : Value} {x : DataW H × List MemPlace} (h : DataW.trod enc Try.prog W 0 (fun _ => true) true fuel 23 [v] = some x) :
    ∃ (a : Option Addr) (n c b o : Nat) (P R : Nat → Int) (A : Nat → Option Addr) (L C B O : Nat → Nat) (Z : Nat → Nat → Int), v = .slice a n c ∧ Crs W a n b o P R A L C B O Z := by
  obtain ⟨a, len, cap, b, o, n, hv, ha, hx⟩ := open_rows Try.underlying23 cells59 (by decide) h
  have each : ∀ i, i < len → ∃ t : Int × Int × Option Addr × Nat × Nat × Nat × Nat × (Nat → Int), W.cell? ⟨b, o + i * 3, none⟩ = some (.int .i64 t.1) ∧ W.cell? ⟨b, o + i * 3 + 1, none⟩ = some (.int .i64 t.2.1) ∧ W.cell? ⟨b, o + i * 3 + 2, none⟩ = some (.slice t.2.2.1 t.2.2.2.1 t.2.2.2.2.1) ∧
      Ints W t.2.2.1 t.2.2.2.1 t.2.2.2.2.2.1 t.2.2.2.2.2.2.1 t.2.2.2.2.2.2.2 := fun i hi => by
    obtain ⟨cs, y, hl, hc, hy⟩ := hx i hi
    obtain ⟨m, hf⟩ := open_fields Try.underlying59 rfl hy
    obtain ⟨y0, f0⟩ := hf 0 _ rfl
    obtain ⟨y1, f1⟩ := hf 1 _ rfl
    obtain ⟨y2, f2⟩ := hf 2 _ rfl
    obtain ⟨z0, g0, _⟩ := int_at f0
    obtain ⟨z1, g1, _⟩ := int_at f1
    obtain ⟨v2, g2, r2⟩ := one_at cells57 hl (by decide) f2
    obtain ⟨A, L, C, B, O, Z, rfl, hZ⟩ := open_ints' r2
    exact ⟨(z0, z1, A, L, C, B, O, Z), (hc 0 (by decide)).trans g0, (hc 1 (by decide)).trans g1, (hc 2 (by decide)).trans g2, hZ⟩
  obtain ⟨F, hF⟩ := choose_lt each
  exact ⟨a, len, cap, b, o, fun i => (F i).1, fun i => (F i).2.1, fun i => (F i).2.2.1, fun i => (F i).2.2.2.1, fun i => (F i).2.2.2.2.1, fun i => (F i).2.2.2.2.2.1, fun i => (F i).2.2.2.2.2.2.1, fun i => (F i).2.2.2.2.2.2.2, hv,
    ha, fun i hi => (hF i hi).1, fun i hi => (hF i hi).2.1, fun i hi => (hF i hi).2.2.1, fun i hi => (hF i hi).2.2.2⟩

set_option maxRecDepth 100000 in
/-- The two arguments. -/
theorem open_inp {base f0 f1 : Nat} {v0 v1 : Value} {x0 x1 : DataW H × List MemPlace} (k0 : Value.okWide Try.prog W .any base 26 v0) (k1 : Value.okWide Try.prog W .any base 27 v1)
    (h0 : DataW.trod enc Try.prog W 0 (fun _ => true) true f0 26 v0.cells.toList = some x0) (h1 : DataW.trod enc Try.prog W 0 (fun _ => true) true f1 27 v1.cells.toList = some x1) :
    ∃ X : Inp, v0 = .agg #[.int .i64 X.form, .int .i64 X.N, .int .i64 X.T, .int .i64 X.K, .int .i64 X.M, .int .i64 X.L, .slice X.ai X.li X.ci, .slice X.ac X.lc X.cc, .int .i64 X.R, .slice X.ao X.lo X.co, .slice X.aa X.la X.ca] ∧
      v1 = .slice X.ad X.ld X.cd ∧ Lies X W ∧ Wf X := by
  obtain ⟨cs, rfl, hsz⟩ := okWide_struct Try.underlying26 k0
  obtain ⟨a, len, cap, rfl⟩ := okWide_slice Try.underlying27 k1
  obtain ⟨ad, ld, cd, bd, od, DP, DV, DR, DS, hd, HD, HR, HV⟩ := open_decs h1
  rw [cells26] at hsz
  obtain ⟨m, hf⟩ := open_fields Try.underlying26 rfl h0
  have hl : (Value.agg cs).cells.toList.length = 11 := by simpa [Value.cells] using hsz
  obtain ⟨_, q0⟩ := hf 0 _ rfl
  obtain ⟨_, q1⟩ := hf 1 _ rfl
  obtain ⟨_, q2⟩ := hf 2 _ rfl
  obtain ⟨_, q3⟩ := hf 3 _ rfl
  obtain ⟨_, q4⟩ := hf 4 _ rfl
  obtain ⟨_, q5⟩ := hf 5 _ rfl
  obtain ⟨_, q6⟩ := hf 6 _ rfl
  obtain ⟨_, q7⟩ := hf 7 _ rfl
  obtain ⟨_, q8⟩ := hf 8 _ rfl
  obtain ⟨_, q9⟩ := hf 9 _ rfl
  obtain ⟨_, q10⟩ := hf 10 _ rfl
  obtain ⟨form, g0, _⟩ := int_at q0
  obtain ⟨N, g1, _⟩ := int_at q1
  obtain ⟨T, g2, _⟩ := int_at q2
  obtain ⟨K, g3, _⟩ := int_at q3
  obtain ⟨M, g4, _⟩ := int_at q4
  obtain ⟨L, g5, _⟩ := int_at q5
  obtain ⟨v6, g6, r6⟩ := one_at cells22 hl (by decide) q6
  obtain ⟨v7, g7, r7⟩ := one_at cells23 hl (by decide) q7
  obtain ⟨R, g8, _⟩ := int_at q8
  obtain ⟨v9, g9, r9⟩ := one_at cells24 hl (by decide) q9
  obtain ⟨v10, g10, r10⟩ := one_at cells24 hl (by decide) q10
  obtain ⟨ai, li, ci, bi, oi, I, rfl, HI⟩ := open_strs' r6
  obtain ⟨ac, lc, cc, bc, oc, CP, CR, CA, CL, CC, CB, CO, CZ, rfl, HC⟩ := open_crs r7
  obtain ⟨ao, lo, co, bo, oo, OP, OR, OV, rfl, HO⟩ := open_chs r9
  obtain ⟨aa, la, ca, ba, oa, AP, AR, AV, rfl, HA⟩ := open_chs r10
  refine ⟨⟨form, N, T, K, M, L, R, ai, li, ci, bi, oi, I, ac, lc, cc, bc, oc, CP, CR, CA, CL, CC, CB, CO, CZ, ao, lo, co, bo, oo, OP, OR, OV, aa, la, ca, ba, oa, AP, AR, AV, ad, ld, cd, bd, od, DP, DV, DR, DS⟩, ?_, hd, ⟨HI, HC, HO, HA, HD⟩, ⟨HR, HV⟩⟩
  clear q0 q1 q2 q3 q4 q5 q6 q7 q8 q9 q10 HI HC HO HA HD h0 h1 k0 k1 r6 r7 r9 r10
  congr 1
  apply Array.ext_getElem?
  intro i
  simp only [Value.cells, Array.getElem?_toList] at g0 g1 g2 g3 g4 g5 g6 g7 g8 g9 g10
  rcases Nat.lt_or_ge i 11 with hi | hi
  · rcases (by omega : i = 0 ∨ i = 1 ∨ i = 2 ∨ i = 3 ∨ i = 4 ∨ i = 5 ∨ i = 6 ∨ i = 7 ∨ i = 8 ∨ i = 9 ∨ i = 10) with rfl | rfl | rfl | rfl | rfl | rfl | rfl | rfl | rfl | rfl | rfl
    · exact g0
    · exact g1
    · exact g2
    · exact g3
    · exact g4
    · exact g5
    · exact g6
    · exact g7
    · exact g8
    · exact g9
    · exact g10
  · rw [Array.getElem?_eq_none (by omega), Array.getElem?_eq_none (by simpa using hi)]
end
end Go.Proofs.Qxb6613846a
