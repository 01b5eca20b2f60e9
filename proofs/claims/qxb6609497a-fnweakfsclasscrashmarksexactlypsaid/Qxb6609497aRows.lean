/-
  NARROWER THAN 'FOR EVERY INPUT', by the rows' own cells (each row's printed sentence says how): FnOmegaSigmaOutputSettledIsLowestSurvivorWithAllSurvivors: maps · FnOmegaSigmaOutputAfterWindowAgreesAndIntersects: maps.
  DERIVED. THE GIVEN ROWS OF THIS SEAT. 4 by the template 'for every input the law returns true; each argument reads behind the call as it read before'; 0 by the template 'total and deterministic' (their statements: Qxb6609497aTotals.lean).
  GIVEN WITH THE SEED: the statements are not yours to turn. If you find one false, say at which input.
  Laid BY PROGRAM, IN A SANDBOX (cutbox-rows.mjs): the forced cells as the released guide's own fill.sh prints them over the translation 7c9b77e6f069bf21… (all of the seat's roots in one cut). By AI agents, Wed Nov 11 2026. No macro, syntax, notation, axiom, sorry.
-/
import Derived.Test.Qxb6609497aChecked
import GoSem.Claim
import GoSem.ClaimJoined
import GoSem.ClaimMapViews
import Derived.JoinedTies
import Derived.KernelRfl
namespace Go.Proofs.Qxb6609497a
/- THE CELL 'sum', in the pinned program and in every row, IS THE sha256 OF THE DUMP (.gsa) THAT Qxb6609497aProg.lean LOADS. Nothing in Lean hashes anything: it is a label: what it is worth is what the hold of that sum in a sandbox is worth. -/
noncomputable def Try.pinned : Pinned := { name := "qxb6609497a", sum := "7c9b77e6f069bf21da0e6d1ee41d73770eb55162b3676f45216772fb04665a23", checked := Try.checked }
namespace Rows
def none {H : Type} : Left H := { results := [], args := [] }

/-- 'zzlaws_internal_oracle_b1.FnWeakFSClassCrashMarksExactlyP': WHATEVER THE INPUT: true; the input reads as it did. -/
def fnWeakFSClassCrashMarksExactlyPSpec : ChangeSpec := { name := "fnWeakFSClassCrashMarksExactlyP", fn := fun _ => fun
  | [d1, d2, d3, d4] => { results := [.lit (.bool true)], args := [d1, d2, d3, d4] }
  | _ => none }
def fnWeakFSClassCrashMarksExactlyPRow : OpenClaim := { program := "qxb6609497a", sum := "7c9b77e6f069bf21da0e6d1ee41d73770eb55162b3676f45216772fb04665a23", func := "example.com/assent/assent/zzlaws_internal_oracle_b1.FnWeakFSClassCrashMarksExactlyP", spec := "fnWeakFSClassCrashMarksExactlyP", apart := false }
def FnWeakFSClassCrashMarksExactlyPSaid : Prop := fnWeakFSClassCrashMarksExactlyPRow.holds Try.pinned (OpenSpec.ofChange fnWeakFSClassCrashMarksExactlyPSpec)

/-- ITS FALSE NEIGHBOUR: 'it returns false'. Refute it at one input. -/
def fnWeakFSClassCrashMarksExactlyPWrong : ChangeSpec := { name := "fnWeakFSClassCrashMarksExactlyP", fn := fun _ => fun
  | [d1, d2, d3, d4] => { results := [.lit (.bool false)], args := [d1, d2, d3, d4] }
  | _ => none }
def FnWeakFSClassCrashMarksExactlyPWrongFalsely : Prop := fnWeakFSClassCrashMarksExactlyPRow.holds Try.pinned (OpenSpec.ofChange fnWeakFSClassCrashMarksExactlyPWrong)

/-- 'zzlaws_internal_oracle_b1.FnWeakFSClassCrashOrderFreeIdempotentAddsOne': WHATEVER THE INPUT: true; the input reads as it did. -/
def fnWeakFSClassCrashOrderFreeIdempotentAddsOneSpec : ChangeSpec := { name := "fnWeakFSClassCrashOrderFreeIdempotentAddsOne", fn := fun _ => fun
  | [d1, d2, d3, d4, d5] => { results := [.lit (.bool true)], args := [d1, d2, d3, d4, d5] }
  | _ => none }
def fnWeakFSClassCrashOrderFreeIdempotentAddsOneRow : OpenClaim := { program := "qxb6609497a", sum := "7c9b77e6f069bf21da0e6d1ee41d73770eb55162b3676f45216772fb04665a23", func := "example.com/assent/assent/zzlaws_internal_oracle_b1.FnWeakFSClassCrashOrderFreeIdempotentAddsOne", spec := "fnWeakFSClassCrashOrderFreeIdempotentAddsOne", apart := false }
def FnWeakFSClassCrashOrderFreeIdempotentAddsOneSaid : Prop := fnWeakFSClassCrashOrderFreeIdempotentAddsOneRow.holds Try.pinned (OpenSpec.ofChange fnWeakFSClassCrashOrderFreeIdempotentAddsOneSpec)

/-- ITS FALSE NEIGHBOUR: 'it returns false'. Refute it at one input. -/
def fnWeakFSClassCrashOrderFreeIdempotentAddsOneWrong : ChangeSpec := { name := "fnWeakFSClassCrashOrderFreeIdempotentAddsOne", fn := fun _ => fun
  | [d1, d2, d3, d4, d5] => { results := [.lit (.bool false)], args := [d1, d2, d3, d4, d5] }
  | _ => none }
def FnWeakFSClassCrashOrderFreeIdempotentAddsOneWrongFalsely : Prop := fnWeakFSClassCrashOrderFreeIdempotentAddsOneRow.holds Try.pinned (OpenSpec.ofChange fnWeakFSClassCrashOrderFreeIdempotentAddsOneWrong)

/-- 'zzlaws_internal_oracle_b1.FnOmegaSigmaOutputSettledIsLowestSurvivorWithAllSurvivors': WHATEVER THE INPUT: true; the input reads as it did. -/
def fnOmegaSigmaOutputSettledIsLowestSurvivorWithAllSurvivorsSpec : ChangeSpec := { name := "fnOmegaSigmaOutputSettledIsLowestSurvivorWithAllSurvivors", fn := fun _ => fun
  | [d1, d2, d3, d4] => { results := [.lit (.bool true)], args := [d1, d2, d3, d4] }
  | _ => none }
def fnOmegaSigmaOutputSettledIsLowestSurvivorWithAllSurvivorsRow : OpenClaim := { program := "qxb6609497a", sum := "7c9b77e6f069bf21da0e6d1ee41d73770eb55162b3676f45216772fb04665a23", func := "example.com/assent/assent/zzlaws_internal_oracle_b1.FnOmegaSigmaOutputSettledIsLowestSurvivorWithAllSurvivors", spec := "fnOmegaSigmaOutputSettledIsLowestSurvivorWithAllSurvivors", unfollowed := true, recurses := true, maps := true, apart := false }
def FnOmegaSigmaOutputSettledIsLowestSurvivorWithAllSurvivorsSaid : Prop := fnOmegaSigmaOutputSettledIsLowestSurvivorWithAllSurvivorsRow.holds Try.pinned (OpenSpec.ofChange fnOmegaSigmaOutputSettledIsLowestSurvivorWithAllSurvivorsSpec)

/-- ITS FALSE NEIGHBOUR: 'it returns false'. Refute it at one input. -/
def fnOmegaSigmaOutputSettledIsLowestSurvivorWithAllSurvivorsWrong : ChangeSpec := { name := "fnOmegaSigmaOutputSettledIsLowestSurvivorWithAllSurvivors", fn := fun _ => fun
  | [d1, d2, d3, d4] => { results := [.lit (.bool false)], args := [d1, d2, d3, d4] }
  | _ => none }
def FnOmegaSigmaOutputSettledIsLowestSurvivorWithAllSurvivorsWrongFalsely : Prop := fnOmegaSigmaOutputSettledIsLowestSurvivorWithAllSurvivorsRow.holds Try.pinned (OpenSpec.ofChange fnOmegaSigmaOutputSettledIsLowestSurvivorWithAllSurvivorsWrong)

/-- 'zzlaws_internal_oracle_b1.FnOmegaSigmaOutputAfterWindowAgreesAndIntersects': WHATEVER THE INPUT: true; the input reads as it did. -/
def fnOmegaSigmaOutputAfterWindowAgreesAndIntersectsSpec : ChangeSpec := { name := "fnOmegaSigmaOutputAfterWindowAgreesAndIntersects", fn := fun _ => fun
  | [d1, d2, d3, d4, d5, d6, d7, d8, d9, d10] => { results := [.lit (.bool true)], args := [d1, d2, d3, d4, d5, d6, d7, d8, d9, d10] }
  | _ => none }
def fnOmegaSigmaOutputAfterWindowAgreesAndIntersectsRow : OpenClaim := { program := "qxb6609497a", sum := "7c9b77e6f069bf21da0e6d1ee41d73770eb55162b3676f45216772fb04665a23", func := "example.com/assent/assent/zzlaws_internal_oracle_b1.FnOmegaSigmaOutputAfterWindowAgreesAndIntersects", spec := "fnOmegaSigmaOutputAfterWindowAgreesAndIntersects", unfollowed := true, recurses := true, maps := true, apart := false }
def FnOmegaSigmaOutputAfterWindowAgreesAndIntersectsSaid : Prop := fnOmegaSigmaOutputAfterWindowAgreesAndIntersectsRow.holds Try.pinned (OpenSpec.ofChange fnOmegaSigmaOutputAfterWindowAgreesAndIntersectsSpec)

/-- ITS FALSE NEIGHBOUR: 'it returns false'. Refute it at one input. -/
def fnOmegaSigmaOutputAfterWindowAgreesAndIntersectsWrong : ChangeSpec := { name := "fnOmegaSigmaOutputAfterWindowAgreesAndIntersects", fn := fun _ => fun
  | [d1, d2, d3, d4, d5, d6, d7, d8, d9, d10] => { results := [.lit (.bool false)], args := [d1, d2, d3, d4, d5, d6, d7, d8, d9, d10] }
  | _ => none }
def FnOmegaSigmaOutputAfterWindowAgreesAndIntersectsWrongFalsely : Prop := fnOmegaSigmaOutputAfterWindowAgreesAndIntersectsRow.holds Try.pinned (OpenSpec.ofChange fnOmegaSigmaOutputAfterWindowAgreesAndIntersectsWrong)

end Rows
end Go.Proofs.Qxb6609497a
