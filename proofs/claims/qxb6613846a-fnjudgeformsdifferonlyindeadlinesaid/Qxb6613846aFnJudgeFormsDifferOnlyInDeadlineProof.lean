/-
  A PROOF OF 'Rows.FnJudgeFormsDifferOnlyInDeadlineSaid'. The walk is Qxb6613846aH3.lean, the arguments' readings Qxb6613846aRd.lean.
-/
import Derived.Test.Qxb6613846aRd
import Derived.Test.Qxb6613846aH3
namespace Go.Proofs.Qxb6613846a.fnJudgeFormsDifferOnlyInDeadline
open Go.ChangeShapes Go.WideShapes Go.ChangeAt Go.RowKit
set_option linter.unusedVariables false

theorem own : ownKnob Try.prog.godebug = none := by kernel_rfl
theorem laidOut : laidOutB Try.prog = true := by kernel_rfl

set_option maxRecDepth 100000 in
theorem lifted (os : Os) (started : os.Started) (H : Type) (enc : TypeId × Value → H) :
    ReturnsInHanded {} Try.checked os 4 .any (Rows.fnJudgeFormsDifferOnlyInDeadlineSpec.pre6 enc Try.prog Try.f4 Rows.fnJudgeFormsDifferOnlyInDeadlineRow.domain false) (Rows.fnJudgeFormsDifferOnlyInDeadlineSpec.post enc Try.prog Try.f4 false true false false) := by
  refine returnsInHanded_of_change (C := Try.checked) own started (by kernel_rfl) Try.func4
    (ChangeSpec.witness6 (enc := enc) (C := Try.checked) false ⟨#[], #[.agg #[.int .i64 0, .int .i64 0, .int .i64 0, .int .i64 0, .int .i64 0, .int .i64 0, .slice none 0 0, .slice none 0 0, .int .i64 0, .slice none 0 0, .slice none 0 0], .slice none 0 0], []⟩ 8 (by kernel_rfl) (by kernel_rfl) (by kernel_rfl) (by kernel_rfl)) ?_
  intro W base args ds gs before hval0 hW hcnd _
  have hval : ∀ (j : Nat) t v, Try.f4.params[j]? = some t → args[j]? = some v → Value.okWide Try.prog W .any base t v := hval0
  have hW' := hW
  obtain ⟨p, q, hA0, hV, rfl, hfz, hnd⟩ := hW
  have hA : DataW.TrodAll enc Try.prog W 0 (fun _ => true) true Try.f4.params.toList args.toList ds p := hA0
  rw [Try.params4] at hA hval
  obtain ⟨v0, v1, d0, d1, p0, p1, rfl, rfl, rfl, h0, h1⟩ := trodAll_two hA
  obtain ⟨rfl, rfl⟩ := trodVars_none hV
  have h0k := h0
  have h1k := h1
  obtain ⟨fuel0, hf0⟩ := h0
  obtain ⟨fuel1, hf1⟩ := h1
  obtain ⟨X, rfl, rfl, hX, hw⟩ := open_inp (hval 0 26 v0 rfl rfl) (hval 1 27 v1 rfl rfl) hf0 hf1
  clear hA0 hval0
  simp only [List.append_nil] at hW'
  have hlt0 : ∀ y ∈ p0, y.block < W.heap.size := fun y hy => by simpa using hW'.lt y (by simp [hy])
  have hlt1 : ∀ y ∈ p1, y.block < W.heap.size := fun y hy => by simpa using hW'.lt y (by simp [hy])
  have harg0 : ∀ W' : World, Below W.heap.size W W' → DataW.Trod enc Try.prog W' 0 (fun b => decide (b < W.heap.size)) true 26 _ d0 p0 :=
    fun W' hn => Below.trod laidOut (by kernel_rfl) (of_decide_eq_true (by kernel_rfl)) h0k hn hlt0
  have harg1 : ∀ W' : World, Below W.heap.size W W' → DataW.Trod enc Try.prog W' 0 (fun b => decide (b < W.heap.size)) true 27 _ d1 p1 :=
    fun W' hn => Below.trod laidOut (by kernel_rfl) (of_decide_eq_true (by kernel_rfl)) h1k hn hlt1
  refine (forms_any X W hX hw).mono fun e W' ⟨he, hn⟩ => ?_
  subst he
  exact ⟨_, rfl, _, _, _, [], _, [], hW', trodAll_mk1 (shut_bool Try.underlying4 _), trodAll_mk2 (harg0 _ hn) (harg1 _ hn), rfl, hn.frame _, fun h => by cases h⟩

theorem over : Rows.fnJudgeFormsDifferOnlyInDeadlineRow.holds Try.pinned (OpenSpec.ofChange Rows.fnJudgeFormsDifferOnlyInDeadlineSpec) :=
  OpenClaim.holds_of_wide 4 Try.f4 rfl rfl rfl rfl rfl rfl rfl ⟨rfl, rfl, rfl, rfl, rfl⟩ rfl rfl rfl rfl rfl (by kernel_rfl) Try.func4 (by kernel_rfl)
    (of_decide_eq_true (by kernel_rfl)) (by unfold Func.isWrapper; first | (rw [if_pos (by decide +kernel)]; kernel_rfl) | (rw [if_neg (by decide +kernel)]; exact ⟨rfl, rfl⟩))
    (fun os started H enc _ => lifted os started H enc)

/-- THE STATEMENT. -/
theorem proved : Rows.FnJudgeFormsDifferOnlyInDeadlineSaid :=
  over
end Go.Proofs.Qxb6613846a.fnJudgeFormsDifferOnlyInDeadline
