/-
  The input of the two Judge laws, as plain data, and how it lies in memory. No program in sight.
-/
import Derived.WalkKit
import Derived.RowKit3
import Derived.Below
namespace Go.Proofs.Qxb6613846a
open Go.RowKit

theorem all_succ {f : Nat → Nat} {k m : Nat} (h : ∀ q, q < k → f q ≤ m) (hk : f k ≤ m) : ∀ q, q < k + 1 → f q ≤ m := fun q hq => by
  rcases Nat.lt_or_ge q k with h1 | h1
  · exact h q h1
  · obtain rfl : q = k := by omega
    exact hk

/-- All cells that are there in w are there in w'. -/
def Keeps (w w' : World) : Prop := ∀ a v, w.cell? a = some v → w'.cell? a = some v

theorem Keeps.refl (w : World) : Keeps w w := fun _ _ h => h
theorem Keeps.trans {a b c : World} (h : Keeps a b) (k : Keeps b c) : Keeps a c := fun x v e => k x v (h x v e)
theorem keeps_of_below {w w' : World} (h : Below w.heap.size w w') : Keeps w w' := fun a v e => by
  have hb : a.block < w.heap.size := World.block_lt_of_cell? w a e
  rw [h.cell hb]; exact e

/-- a string slice's n elements, if any, lie at b, o. -/
structure Strs (w : World) (a : Option Addr) (n b o : Nat) (I : Nat → ByteArray) : Prop where
  addr : 0 < n → a = some ⟨b, o, none⟩
  cell : ∀ i, i < n → w.cell? ⟨b, o + i, none⟩ = some (.string (I i))
/-- a slice of (int, int, string). -/
structure Chs (w : World) (a : Option Addr) (n b o : Nat) (P R : Nat → Int) (V : Nat → ByteArray) : Prop where
  addr : 0 < n → a = some ⟨b, o, none⟩
  c0 : ∀ i, i < n → w.cell? ⟨b, o + i * 3, none⟩ = some (.int .i64 (P i))
  c1 : ∀ i, i < n → w.cell? ⟨b, o + i * 3 + 1, none⟩ = some (.int .i64 (R i))
  c2 : ∀ i, i < n → w.cell? ⟨b, o + i * 3 + 2, none⟩ = some (.string (V i))
/-- a slice of ints. -/
structure Ints (w : World) (a : Option Addr) (n b o : Nat) (Z : Nat → Int) : Prop where
  addr : 0 < n → a = some ⟨b, o, none⟩
  cell : ∀ i, i < n → w.cell? ⟨b, o + i, none⟩ = some (.int .i64 (Z i))
/-- a slice of (int, int, slice of ints). -/
structure Crs (w : World) (a : Option Addr) (n b o : Nat) (P R : Nat → Int) (A : Nat → Option Addr) (L C : Nat → Nat) (B O : Nat → Nat) (Z : Nat → Nat → Int) : Prop where
  addr : 0 < n → a = some ⟨b, o, none⟩
  c0 : ∀ i, i < n → w.cell? ⟨b, o + i * 3, none⟩ = some (.int .i64 (P i))
  c1 : ∀ i, i < n → w.cell? ⟨b, o + i * 3 + 1, none⟩ = some (.int .i64 (R i))
  c2 : ∀ i, i < n → w.cell? ⟨b, o + i * 3 + 2, none⟩ = some (.slice (A i) (L i) (C i))
  ints : ∀ i, i < n → Ints w (A i) (L i) (B i) (O i) (Z i)
/-- a slice of (int, string, int, int). -/
structure Decs (w : World) (a : Option Addr) (n b o : Nat) (P : Nat → Int) (V : Nat → ByteArray) (R S : Nat → Int) : Prop where
  addr : 0 < n → a = some ⟨b, o, none⟩
  c0 : ∀ i, i < n → w.cell? ⟨b, o + i * 4, none⟩ = some (.int .i64 (P i))
  c1 : ∀ i, i < n → w.cell? ⟨b, o + i * 4 + 1, none⟩ = some (.string (V i))
  c2 : ∀ i, i < n → w.cell? ⟨b, o + i * 4 + 2, none⟩ = some (.int .i64 (R i))
  c3 : ∀ i, i < n → w.cell? ⟨b, o + i * 4 + 3, none⟩ = some (.int .i64 (S i))

section
variable {w w' : World} {a : Option Addr} {n b o : Nat}
theorem Strs.mono {I : Nat → ByteArray} (h : Strs w a n b o I) (k : Keeps w w') : Strs w' a n b o I := ⟨h.addr, fun i hi => k _ _ (h.cell i hi)⟩
theorem Ints.mono {I : Nat → Int} (h : Ints w a n b o I) (k : Keeps w w') : Ints w' a n b o I := ⟨h.addr, fun i hi => k _ _ (h.cell i hi)⟩
theorem Chs.mono {P R : Nat → Int} {V : Nat → ByteArray} (h : Chs w a n b o P R V) (k : Keeps w w') : Chs w' a n b o P R V :=
  ⟨h.addr, fun i hi => k _ _ (h.c0 i hi), fun i hi => k _ _ (h.c1 i hi), fun i hi => k _ _ (h.c2 i hi)⟩
theorem Crs.mono {P R : Nat → Int} {A : Nat → Option Addr} {L C : Nat → Nat} {B O : Nat → Nat} {Z : Nat → Nat → Int} (h : Crs w a n b o P R A L C B O Z) (k : Keeps w w') : Crs w' a n b o P R A L C B O Z :=
  ⟨h.addr, fun i hi => k _ _ (h.c0 i hi), fun i hi => k _ _ (h.c1 i hi), fun i hi => k _ _ (h.c2 i hi), fun i hi => (h.ints i hi).mono k⟩
theorem Decs.mono {P R S : Nat → Int} {V : Nat → ByteArray} (h : Decs w a n b o P V R S) (k : Keeps w w') : Decs w' a n b o P V R S :=
  ⟨h.addr, fun i hi => k _ _ (h.c0 i hi), fun i hi => k _ _ (h.c1 i hi), fun i hi => k _ _ (h.c2 i hi), fun i hi => k _ _ (h.c3 i hi)⟩
theorem Strs.lt {I : Nat → ByteArray} (h : Strs w a n b o I) {i : Nat} (hi : i < n) : b < w.heap.size := World.block_lt_of_cell? w _ (h.cell i hi)
theorem Ints.lt {I : Nat → Int} (h : Ints w a n b o I) {i : Nat} (hi : i < n) : b < w.heap.size := World.block_lt_of_cell? w _ (h.cell i hi)
theorem Chs.lt {P R : Nat → Int} {V : Nat → ByteArray} (h : Chs w a n b o P R V) {i : Nat} (hi : i < n) : b < w.heap.size := World.block_lt_of_cell? w _ (h.c0 i hi)
theorem Crs.lt {P R : Nat → Int} {A : Nat → Option Addr} {L C : Nat → Nat} {B O : Nat → Nat} {Z : Nat → Nat → Int} (h : Crs w a n b o P R A L C B O Z) {i : Nat} (hi : i < n) : b < w.heap.size := World.block_lt_of_cell? w _ (h.c0 i hi)
theorem Decs.lt {P R S : Nat → Int} {V : Nat → ByteArray} (h : Decs w a n b o P V R S) {i : Nat} (hi : i < n) : b < w.heap.size := World.block_lt_of_cell? w _ (h.c0 i hi)
end

theorem keeps_alloc (w : World) (o : Obj) : Keeps w (w.alloc o) := keeps_of_below ((Below.refl _ _).alloc (Nat.le_refl _) o)

/-- The whole input: the scenario's fields and the decisions. -/
structure Inp where
  form : Int
  N : Int
  T : Int
  K : Int
  M : Int
  L : Int
  R : Int
  ai : Option Addr
  li : Nat
  ci : Nat
  bi : Nat
  oi : Nat
  I : Nat → ByteArray
  ac : Option Addr
  lc : Nat
  cc : Nat
  bc : Nat
  oc : Nat
  CP : Nat → Int
  CR : Nat → Int
  CA : Nat → Option Addr
  CL : Nat → Nat
  CC : Nat → Nat
  CB : Nat → Nat
  CO : Nat → Nat
  CZ : Nat → Nat → Int
  ao : Option Addr
  lo : Nat
  co : Nat
  bo : Nat
  oo : Nat
  OP : Nat → Int
  OR : Nat → Int
  OV : Nat → ByteArray
  aa : Option Addr
  la : Nat
  ca : Nat
  ba : Nat
  oa : Nat
  AP : Nat → Int
  AR : Nat → Int
  AV : Nat → ByteArray
  ad : Option Addr
  ld : Nat
  cd : Nat
  bd : Nat
  od : Nat
  DP : Nat → Int
  DV : Nat → ByteArray
  DR : Nat → Int
  DS : Nat → Int

/-- It lies in w. -/
structure Lies (X : Inp) (w : World) : Prop where
  i : Strs w X.ai X.li X.bi X.oi X.I
  c : Crs w X.ac X.lc X.bc X.oc X.CP X.CR X.CA X.CL X.CC X.CB X.CO X.CZ
  o : Chs w X.ao X.lo X.bo X.oo X.OP X.OR X.OV
  a : Chs w X.aa X.la X.ba X.oa X.AP X.AR X.AV
  d : Decs w X.ad X.ld X.bd X.od X.DP X.DV X.DR X.DS

theorem Lies.mono {X : Inp} {w w' : World} (h : Lies X w) (k : Keeps w w') : Lies X w' := ⟨h.i.mono k, h.c.mono k, h.o.mono k, h.a.mono k, h.d.mono k⟩

/-- What the values' own kinds give. -/
structure Wf (X : Inp) : Prop where
  dr : ∀ j, j < X.ld → X.DR j ≤ 9223372036854775807
  dv : ∀ j, j < X.ld → (X.DV j).size ≤ maxLen

/-- All lengths are at most 2^20. -/
structure Short (X : Inp) : Prop where
  i : X.li ≤ 1048576
  c : X.lc ≤ 1048576
  cl : ∀ j, j < X.lc → X.CL j ≤ 1048576
  o : X.lo ≤ 1048576
  a : X.la ≤ 1048576
  d : X.ld ≤ 1048576

/-- What the two bounds on total length leave behind. -/
def BytesPost (X : Inp) (w : World) (e : Ending) (w' : World) : Prop := (∃ bb : Bool, e = .returned (.bool bb) ∧ (bb = true → Short X)) ∧ ∃ c : Array Value, w' = w.alloc (.cells c 26)
theorem BytesPost.no (X : Inp) (w : World) (c : Array Value) : BytesPost X w (.returned (.bool false)) (w.alloc (.cells c 26)) := ⟨⟨false, rfl, fun h => by cases h⟩, c, rfl⟩
theorem BytesPost.yes (X : Inp) (w : World) (c : Array Value) (h : Short X) : BytesPost X w (.returned (.bool true)) (w.alloc (.cells c 26)) := ⟨⟨true, rfl, fun _ => h⟩, c, rfl⟩
end Go.Proofs.Qxb6613846a
