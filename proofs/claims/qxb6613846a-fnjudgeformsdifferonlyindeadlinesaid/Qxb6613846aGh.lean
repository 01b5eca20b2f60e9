/-
  What 'distinct' holds after k rounds: the first values in a row of 32, the others in a map. No program in sight.
-/
import Derived.Test.Qxb6613846aPl2
import Derived.Maps.OwnSet
import Derived.ArgAppend
namespace Go.Proofs.Qxb6613846a
open Go.Maps

theorem bytes_inj {x v : ByteArray} (h : (x.toList == v.toList) = true) : x = v := by
  have h := eq_of_beq h
  rw [ByteArray.toList_eq, ByteArray.toList_eq] at h
  obtain ⟨⟨x⟩⟩ := x
  obtain ⟨⟨y⟩⟩ := v
  simpa using h
theorem key_eq {x v : ByteArray} : (Lit.string x.data.toList = Lit.string v.data.toList) ↔ x = v := by
  constructor
  · intro h
    injection h with h
    obtain ⟨⟨x⟩⟩ := x
    obtain ⟨⟨y⟩⟩ := v
    simpa using h
  · intro h; rw [h]
theorem beq_self (v : ByteArray) : (v.toList == v.toList) = true := by simp

theorem seen_congr {X Y : Nat → ByteArray} (v : ByteArray) : ∀ m, (∀ i, i < m → X i = Y i) → Pl.seen X v m = Pl.seen Y v m
  | 0, _ => rfl
  | m + 1, h => by
    unfold Pl.seen
    rw [seen_congr v m (fun i hi => h i (by omega)), h m (by omega)]

/-- After k rounds. -/
structure Ghost (V : Nat → ByteArray) (k m : Nat) (X : Nat → ByteArray) (D : DataW Unit) : Prop where
  seen : ∀ v, Pl.seen V v k = (Pl.seen X v m || Maps.has D (.string v.data.toList))
  cnt : Pl.dcount V k = m + Maps.size D
  small : m < 32 → D = .map []

theorem Ghost.start (V X : Nat → ByteArray) : Ghost V 0 0 X (.map []) := ⟨fun _ => rfl, rfl, fun _ => rfl⟩

/-- The value stood among the first ones. -/
theorem Ghost.hit {V X : Nat → ByteArray} {k m : Nat} {D : DataW Unit} (h : Ghost V k m X D) (hs : Pl.seen X (V k) m = true) : Ghost V (k + 1) m X D := by
  have hk : Pl.seen V (V k) k = true := by rw [h.seen, hs]; rfl
  refine ⟨fun v => ?_, ?_, h.small⟩
  · show (Pl.seen V v k || ((V k).toList == v.toList)) = _
    rw [← h.seen]
    cases hb : ((V k).toList == v.toList)
    · rw [Bool.or_false]
    · obtain rfl := bytes_inj hb
      rw [hk]; rfl
  · show Pl.dcount V k + (if Pl.seen V (V k) k then 0 else 1) = _
    rw [hk, h.cnt]; rfl

/-- A new value, and there is room in the row. -/
theorem Ghost.app {V X : Nat → ByteArray} {k m : Nat} {D : DataW Unit} (h : Ghost V k m X D) (hm : m < 32) (hs : Pl.seen X (V k) m = false) :
    Ghost V (k + 1) (m + 1) (fun i => if i = m then V k else X i) D := by
  have hD := h.small hm
  have hk : Pl.seen V (V k) k = false := by rw [h.seen, hs, hD]; rfl
  refine ⟨fun v => ?_, ?_, fun _ => hD⟩
  · show (Pl.seen V v k || ((V k).toList == v.toList)) = ((Pl.seen (fun i => if i = m then V k else X i) v m || (((fun i => if i = m then V k else X i) m).toList == v.toList)) || _)
    rw [h.seen, seen_congr v m (fun i hi => (if_neg (by omega) : (if i = m then V k else X i) = X i))]
    simp only [if_true]
    rw [Bool.or_assoc, Bool.or_assoc, Bool.or_comm ((V k).toList == v.toList)]
  · show Pl.dcount V k + (if Pl.seen V (V k) k then 0 else 1) = _
    rw [hk, h.cnt]
    simp only [Bool.false_eq_true, if_false]
    omega

/-- The row is full: the value goes into the map. -/
theorem Ghost.put {V X : Nat → ByteArray} {k m : Nat} {D : DataW Unit} (h : Ghost V k m X D) (hm : m = 32) (hT : Tidy D) (hs : Pl.seen X (V k) m = false) (d : DataW Unit) :
    Ghost V (k + 1) m X (D.put (.string (V k).data.toList) d) := by
  have hk : Pl.seen V (V k) k = Maps.has D (.string (V k).data.toList) := by rw [h.seen, hs]; rfl
  refine ⟨fun v => ?_, ?_, fun h => absurd h (by omega)⟩
  · show (Pl.seen V v k || ((V k).toList == v.toList)) = _
    rw [h.seen]
    cases hb : ((V k).toList == v.toList)
    · have hne : Lit.string v.data.toList ≠ Lit.string (V k).data.toList := fun e => by
        have := key_eq.1 e
        subst this
        rw [beq_self] at hb
        cases hb
      rw [Maps.has_put_other hne, Bool.or_false]
    · obtain rfl := bytes_inj hb
      rw [Maps.has_put_same (k := .string (V k).data.toList) hT.isMap (by exact True.intro)]
      simp
  · show Pl.dcount V k + (if Pl.seen V (V k) k then 0 else 1) = _
    rw [hk, h.cnt, Maps.size_put hT]
    cases Maps.has D (.string (V k).data.toList) <;> simp <;> omega

/-- 'append(s, v)' where there is room: one element of one cell. -/
theorem wpList_append_one {P : Program} (w : World) {ops : Array Oper} {rest : List Oper} {o : Oper} {a : Act} {Q : Exit → Act → World → Prop}
    (hg : o.guard = none) (s x : Operand) (t : TypeId) (hop : o.op = Op.call { callee := Callee.builtin Builtin.append, args := #[s, x], argTypes := #[t, t] })
    (e : TypeId) (z : Value) (bytes : Nat) (h1 : P.underlying t = some (.slice e)) (hinfo : (P.info? e).map (fun i => (i.zero, i.size, i.bytes)) = some (some z, 1, bytes))
    (b n cap : Nat) (hs : a.eval s = .slice (some ⟨b, 0, none⟩) n cap)
    (ad : Addr) (v : Value) (hx : a.eval x = .slice (some ad) 1 1) (hc : w.cell? (ad.add 0) = some v) (h1c : v.oneCell' = true)
    (hroom : n + 1 ≤ cap) (u : Value) (hcell : w.cell? ⟨b, n, none⟩ = some u) (hfz : w.frozen? ⟨b, n, none⟩ = false)
    (hK : wpList P ops Q rest (a.put o.dst (.slice (some ⟨b, 0, none⟩) (n + 1) cap)) (w.setCell ⟨b, n, none⟩ v)) :
    wpList P ops Q (o :: rest) a w := by
  obtain ⟨i, hi, hzz⟩ := Option.map_eq_some_iff.1 hinfo
  simp only [Prod.mk.injEq] at hzz
  obtain ⟨_, hsz, _⟩ := hzz
  refine wpList_plain hg fun K hK' => ?_
  have hrun := run_append_room_cells (P := P) w t o.type e i h1 hi b 0 n cap ad 1 1 [v] (by rw [hsz]; rfl)
    (fun j u hj => by
      rcases j with _ | j
      · simp at hj; subst hj; exact hc
      · simp at hj)
    (fun u hu => by simp at hu; subst hu; exact h1c) hroom
    (fun j hj => by
      have : j = 0 := by simp at hj; exact hj
      subst this
      simp [hsz, hcell])
    (fun j hj => by
      have : j = 0 := by simp at hj; exact hj
      subst this
      simp [hsz, hfz])
  have e1 : w.setCells b (0 + n * i.size) [v] = w.setCell ⟨b, n, none⟩ v := by simp [World.setCells, hsz]
  rw [e1] at hrun
  unfold Oper.wp
  simp [execOp, hop, resolve, invoke, builtin, hs, hx, hrun, Result.andThen]
  exact hK' _ _ hK
end Go.Proofs.Qxb6613846a
