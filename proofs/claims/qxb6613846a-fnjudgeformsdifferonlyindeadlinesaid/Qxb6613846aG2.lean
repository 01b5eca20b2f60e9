import Derived.Test.Qxb6613846aRows
import Derived.Test.Qxb6613846aIn
import Derived.WalkKit
import Derived.WalkSpells
import Derived.WalkLawsBesides
import Derived.LoopTactic
import Derived.RegionTactic
import Derived.Laws.Pointers
import Derived.Outline
import Derived.RowKit3
import Derived.Test.Qxb6613846aPl2
import Derived.Test.Qxb6613846aMk
import Derived.Test.Qxb6613846aF1
import Derived.Test.Qxb6613846aG1
import Derived.Test.Qxb6613846aGh
import Derived.ArgAppend
import Derived.Maps.OwnSet
namespace Go.Proofs.Qxb6613846a
open Go.RowKit Go.Maps

theorem law79 : Keyed Try.prog 79 := string_keyed Try.underlying79
theorem rowIs_few (w : World) (x : Array Value) (t : TypeId) : ∃ f, (w.alloc (.cells x t)).rowIs w.heap.size t x.size f :=
  ⟨_, World.rowIs_alloc w x t (fun i => x[i]?.getD undef) (fun i hi => by simp [hi])⟩
theorem set_str2 {X : Nat → ByteArray} {f : Nat → Value} {m : Nat} (v : ByteArray) (h : ∀ i, i < m → f i = .string (X i)) : ∀ i, i < m + 1 → (fun j => if j = m then Value.string v else f j) i = .string ((fun i => if i = m then v else X i) i) := fun i hi => by
  rcases Nat.lt_or_ge i m with h1 | h1
  · show (if i = m then _ else _) = Value.string (if i = m then _ else _)
    rw [if_neg (by omega), if_neg (by omega), h i h1]
  · obtain rfl : i = m := by omega
    show (if i = i then _ else _) = Value.string (if i = i then _ else _)
    rw [if_pos rfl, if_pos rfl]

/-- The map, or none yet. -/
def MapIs (w : World) (B k m : Nat) (D : DataW Unit) (u : Value) : Prop :=
  (u = .map none ∧ D = .map []) ∨ ∃ bm, B < bm ∧ u = .map (some bm) ∧ m = 32 ∧ w.ownsMap Try.prog 79 (plainElem Try.prog 4) bm k D

/-- The head of each round of 'distinct'. -/
structure DRel (V : Nat → ByteArray) (n : Nat) (w wr : World) (u4 u5 u11 : Value) (k m : Nat) (f : Nat → Value) (X : Nat → ByteArray) (D : DataW Unit) : Prop where
  hk : k ≤ n
  hm : m ≤ 32
  row : wr.rowIs w.heap.size 115 32 f
  val : ∀ i, i < m → f i = .string (X i)
  bel : Below w.heap.size w wr
  gh : Ghost V k m X D
  map : MapIs wr w.heap.size k m D u5
  e4 : u4 = .slice (some ⟨w.heap.size, 0, none⟩) m 32
  e11 : u11 = .int .i64 k

set_option maxRecDepth 100000 in
set_option maxHeartbeats 4000000 in
/-- distinct. -/
theorem distinct_any (a : Option Addr) (n c b : Nat) (P : Nat → Int) (V : Nat → ByteArray) (R S : Nat → Int) (w : World) (hn : n ≤ 1048576) (hD : Decs w a n b 0 P V R S) (hv : ∀ j, j < n → (V j).size ≤ maxLen) :
    Calls Try.prog 50 #[.slice a n c] w fun e w' => e = .returned (.int .i64 (Pl.dcount V n : Nat)) ∧ Below w.heap.size w w' := by
  have hmm := @run_makeMap Try.prog
  have hq := fun w r => run_eql_map_nil (P := Try.prog) w 116 79 4 r Try.underlying116
  have hln := fun w => Maps.len_nil (P := Try.prog) (w := w) (t := 116) Try.underlying116
  go_enter Try.func50, Try.ntmps50
  go_wp2
  go_loopw [4, 5, 7, 11] (fun u4 u5 _ u11 wr => ∃ (k m : Nat) (f : Nat → Value) (X : Nat → ByteArray) (D : DataW Unit), DRel V n w wr u4 u5 u11 k m f X D) (fun _ _ _ i _ => n - (intOf i).toNat)
  case atStart =>
    obtain ⟨f, hf⟩ := rowIs_few w #[.string ⟨#[]⟩, .string ⟨#[]⟩, .string ⟨#[]⟩, .string ⟨#[]⟩, .string ⟨#[]⟩, .string ⟨#[]⟩, .string ⟨#[]⟩, .string ⟨#[]⟩, .string ⟨#[]⟩, .string ⟨#[]⟩, .string ⟨#[]⟩, .string ⟨#[]⟩, .string ⟨#[]⟩, .string ⟨#[]⟩, .string ⟨#[]⟩, .string ⟨#[]⟩, .string ⟨#[]⟩, .string ⟨#[]⟩, .string ⟨#[]⟩, .string ⟨#[]⟩, .string ⟨#[]⟩, .string ⟨#[]⟩, .string ⟨#[]⟩, .string ⟨#[]⟩, .string ⟨#[]⟩, .string ⟨#[]⟩, .string ⟨#[]⟩, .string ⟨#[]⟩, .string ⟨#[]⟩, .string ⟨#[]⟩, .string ⟨#[]⟩, .string ⟨#[]⟩] 115
    exact ⟨0, 0, f, V, .map [], ⟨by omega, by omega, hf, fun i hi => absurd hi (by omega), (Below.refl _ _).alloc (Nat.le_refl _) _, Ghost.start V V, Or.inl ⟨rfl, rfl⟩, rfl, rfl⟩⟩
  case round =>
    obtain ⟨k, m, f, X, D, hk, hm, hrow, hval, hbel, hgh, hmap, rfl, rfl⟩ := hrel
    have HG : Hid (Ghost V k m X D) := hgh
    have HV : Hid (∀ i, i < m → f i = .string (X i)) := hval
    have HR : Hid (wr.rowIs w.heap.size 115 32 f) := hrow
    have HB : Hid (Below w.heap.size w wr) := hbel
    have HS : Hid (∀ W, Keeps wr W → Strs W (some ⟨w.heap.size, 0, none⟩) m w.heap.size 0 X) := fun W hkp => ⟨fun _ => rfl, fun i hi => by rw [Nat.zero_add]; exact hkp _ _ (by rw [hrow.cell (by omega), hval i hi])⟩
    have hlt0 := hrow.lt
    clear hgh hval
    by_cases hlt : k < n
    · have h0 := keeps_of_below hbel _ _ (hD.c0 k hlt)
      have h1 := keeps_of_below hbel _ _ (hD.c1 k hlt)
      have h2 := keeps_of_below hbel _ _ (hD.c2 k hlt)
      have h3 := keeps_of_below hbel _ _ (hD.c3 k hlt)
      have hvk := hv k hlt
      simp only [Nat.zero_add] at h0 h1 h2 h3
      obtain rfl := hD.addr (by omega)
      have HVL : Hid (∀ j, j < n → (V j).size ≤ maxLen) := hv
      clear hD hv hbel
      cases hs : Pl.seen X (V k) m
      · rcases Nat.lt_or_ge m 32 with hm32 | hm32
        · rcases hmap with ⟨rfl, rfl⟩ | ⟨bm, _, _, h32, _⟩
          · have hcm := hrow.cell (i := m) hm32
            have hzm := hrow.frozen m
            clear hrow
            go_wp2_with fail
            refine (contains_any _ _ _ _ _ _ _ _ (by omega) (by exact HS.out _ (keeps_alloc _ _))).mono ?_
            rintro e w2 ⟨rfl, rfl⟩
            rw [hs]
            go_wp2_with (at_builtin; refine wpList_append_one _ rfl _ _ 44 rfl 79 (.string ⟨#[]⟩) 16 Try.underlying44 info79 w.heap.size m 32 rfl ⟨wr.heap.size + 1, 0, none⟩ (.string (V k)) rfl ?hc rfl (by omega) (f m) ?hcm ?hzm ?_)
            case hc => simp [Addr.add, go_sem]
            case hcm => exact keeps_alloc _ _ _ _ (keeps_alloc _ _ _ _ hcm)
            case hzm => simp [go_sem, hzm, hlt0, Nat.lt_succ_of_lt hlt0]
            go_wp2
            go_roundw
            case rel =>
              refine ⟨k + 1, m + 1, _, _, .map [], ⟨by omega, by omega, ((HR.out.set m _).alloc _).alloc _, set_str2 (V k) HV.out, (((HB.out.setCell (Nat.le_refl _) _).alloc (by have := HB.out.size; simpa using this) _).alloc (by have := HB.out.size; simp; omega) _), HG.out.app hm32 hs, Or.inl ⟨rfl, rfl⟩, rfl, by go_num⟩⟩
            case measure => simp [intOf]; omega
          · omega
        · obtain rfl : m = 32 := by omega
          have hkey : keyOf Try.prog 79 (.string (V k)) = some (.string (V k).data.toList) := Go.WideMaps.keyOf_string_mk Try.underlying79 hvk
          rcases hmap with ⟨rfl, rfl⟩ | ⟨bm, hbm, rfl, _, hown⟩
          · have hown0 : ∀ (o : Obj), ((wr.alloc o).alloc (.map #[] 0)).ownsMap Try.prog 79 (plainElem (H := Unit) Try.prog 4) (wr.heap.size + 1) 0 (.map []) := by
              intro o
              have h := World.ownsMap_made (H := Unit) (wr.alloc o) Try.prog 79 (plainElem Try.prog 4)
              rwa [World.size_alloc] at h
            clear hrow
            go_wp2_with fail
            refine (contains_any _ _ _ _ _ _ _ _ (by omega) (by exact HS.out _ (keeps_alloc _ _))).mono ?_
            rintro e w2 ⟨rfl, rfl⟩
            rw [hs]
            go_wp2_with (at_mapUpdate; refine wpList_mapUpdate_own _ rfl _ _ _ 116 rfl 79 4 law79 Try.underlying116 (plainElem (H := Unit) Try.prog 4) (wr.heap.size + 1) 0 (.map []) rfl (hown0 _) (by unfold maxLen; omega) _ _ _ rfl rfl hkey _ [] (plainElem_bool Try.underlying4 true) ?_; intro w3 hown3 hgrow3)
            go_roundw
            case rel =>
              refine ⟨k + 1, 32, f, X, _, ⟨by omega, by omega, ((HR.out.alloc _).alloc _).of_block (hgrow3.block _ (by simp; omega) (by simp; omega)), HV.out, (((HB.out.alloc HB.out.size _).alloc (by have := HB.out.size; simp; omega) _).grown hgrow3 (by have := HB.out.size; simp; omega) (fun j hj => by cases hj; have := HB.out.size; omega)), HG.out.put rfl tidy_empty hs _, Or.inr ⟨_, by omega, rfl, rfl, hown3.mono (by omega)⟩, rfl, by go_num⟩⟩
            case measure => simp [intOf]; omega
          · have hT := hown.tidy law79
            have hbl := hown.lt
            have hne : bm ≠ w.heap.size := by omega
            clear hrow
            go_wp2_with fail
            refine (contains_any _ _ _ _ _ _ _ _ (by omega) (by exact HS.out _ (keeps_alloc _ _))).mono ?_
            rintro e w2 ⟨rfl, rfl⟩
            rw [hs]
            go_wp2_with (at_mapUpdate; refine wpList_mapUpdate_own _ rfl _ _ _ 116 rfl 79 4 law79 Try.underlying116 (plainElem (H := Unit) Try.prog 4) bm k D rfl (hown.alloc _) (by unfold maxLen; omega) _ _ _ rfl rfl hkey _ [] (plainElem_bool Try.underlying4 true) ?_; intro w3 hown3 hgrow3)
            go_roundw
            case rel =>
              refine ⟨k + 1, 32, f, X, _, ⟨by omega, by omega, (HR.out.alloc _).of_block (hgrow3.block _ (by simp; omega) (by simp; omega)), HV.out, ((HB.out.alloc HB.out.size _).grown hgrow3 (by have := HB.out.size; simp; omega) (fun j hj => by cases hj; omega)), HG.out.put rfl hT hs _, Or.inr ⟨bm, hbm, rfl, rfl, hown3⟩, rfl, by go_num⟩⟩
            case measure => simp [intOf]; omega
      · clear hrow
        go_wp2_with fail
        refine (contains_any _ _ _ _ _ _ _ _ (by omega) (by exact HS.out _ (keeps_alloc _ _))).mono ?_
        rintro e w2 ⟨rfl, rfl⟩
        rw [hs]
        go_wp2
        go_roundw
        case rel =>
          refine ⟨k + 1, m, f, X, D, ⟨by omega, hm, HR.out.alloc _, HV.out, HB.out.alloc HB.out.size _, HG.out.hit hs, ?_, rfl, by go_num⟩⟩
          rcases hmap with h | ⟨bm, hbm, e5, h32, hown⟩
          · exact Or.inl h
          · exact Or.inr ⟨bm, hbm, e5, h32, (hown.alloc _).mono (Nat.le_succ _)⟩
        case measure => simp [intOf]; omega
    · obtain rfl : k = n := by omega
      have hcnt := HG.out.cnt
      have hle := Pl.dcount_le V k
      have HC : Hid (Pl.dcount V k = m + Maps.size D) := hcnt
      rcases hmap with ⟨rfl, rfl⟩ | ⟨bm, hbm, rfl, _, hown⟩
      · clear hrow hcnt hD hv hbel
        go_wp2
        go_ret
        exact ⟨by rw [HC.out]; rfl, HB.out⟩
      · clear hrow hD hv hbel
        rw [hcnt] at hle
        clear hcnt
        go_wp2_with (at_len; refine wpList_len_own _ rfl _ 116 rfl 79 4 Try.underlying116 _ bm k D rfl hown ?_)
        go_ret
        exact ⟨by rw [HC.out]; go_num, HB.out⟩
end Go.Proofs.Qxb6613846a
