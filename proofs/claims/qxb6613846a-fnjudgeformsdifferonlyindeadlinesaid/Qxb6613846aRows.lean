/-
  No cell of these rows narrows 'for every input' (looked for: loops, veiled, ifaces, maps, wideKeys, modest, calm, conditions, laid).
  DERIVED. THE GIVEN ROWS OF THIS SEAT. 5 by the template 'for every input the law returns true; each argument reads behind the call as it read before'; 0 by the template 'total and deterministic' (their statements: Qxb6613846aTotals.lean).
  GIVEN WITH THE SEED: the statements are not yours to turn. If you find one false, say at which input.
  Laid BY PROGRAM, IN A SANDBOX (cutbox-rows.mjs): the forced cells as the released guide's own fill.sh prints them over the translation febfb2078f6b3602… (all of the seat's roots in one cut). By AI agents, Wed Nov 11 2026. No macro, syntax, notation, axiom, sorry.
-/
import Derived.Test.Qxb6613846aChecked
import GoSem.Claim
import GoSem.ClaimJoined
import GoSem.ClaimMapViews
import Derived.JoinedTies
import Derived.KernelRfl
namespace Go.Proofs.Qxb6613846a
/- THE CELL 'sum', in the pinned program and in every row, IS THE sha256 OF THE DUMP (.gsa) THAT Qxb6613846aProg.lean LOADS. Nothing in Lean hashes anything: it is a label: what it is worth is what the hold of that sum in a sandbox is worth. -/
noncomputable def Try.pinned : Pinned := { name := "qxb6613846a", sum := "febfb2078f6b36021f275398ad69959166978050de7567d3a4f6759ff728ef93", checked := Try.checked }
namespace Rows
def none {H : Type} : Left H := { results := [], args := [] }

/-- 'zzlaws_narrowing_b1.FnJudgeMatchesModel': WHATEVER THE INPUT: true; the input reads as it did. -/
def fnJudgeMatchesModelSpec : ChangeSpec := { name := "fnJudgeMatchesModel", fn := fun _ => fun
  | [d1, d2] => { results := [.lit (.bool true)], args := [d1, d2] }
  | _ => none }
def fnJudgeMatchesModelRow : OpenClaim := { program := "qxb6613846a", sum := "febfb2078f6b36021f275398ad69959166978050de7567d3a4f6759ff728ef93", func := "example.com/kagree/kagree/zzlaws_narrowing_b1.FnJudgeMatchesModel", spec := "fnJudgeMatchesModel", unfollowed := true, recurses := true, apart := false }
def FnJudgeMatchesModelSaid : Prop := fnJudgeMatchesModelRow.holds Try.pinned (OpenSpec.ofChange fnJudgeMatchesModelSpec)

/-- ITS FALSE NEIGHBOUR: 'it returns false'. Refute it at one input. -/
def fnJudgeMatchesModelWrong : ChangeSpec := { name := "fnJudgeMatchesModel", fn := fun _ => fun
  | [d1, d2] => { results := [.lit (.bool false)], args := [d1, d2] }
  | _ => none }
def FnJudgeMatchesModelWrongFalsely : Prop := fnJudgeMatchesModelRow.holds Try.pinned (OpenSpec.ofChange fnJudgeMatchesModelWrong)

/-- 'zzlaws_narrowing_b1.FnJudgeFormsDifferOnlyInDeadline': WHATEVER THE INPUT: true; the input reads as it did. -/
def fnJudgeFormsDifferOnlyInDeadlineSpec : ChangeSpec := { name := "fnJudgeFormsDifferOnlyInDeadline", fn := fun _ => fun
  | [d1, d2] => { results := [.lit (.bool true)], args := [d1, d2] }
  | _ => none }
def fnJudgeFormsDifferOnlyInDeadlineRow : OpenClaim := { program := "qxb6613846a", sum := "febfb2078f6b36021f275398ad69959166978050de7567d3a4f6759ff728ef93", func := "example.com/kagree/kagree/zzlaws_narrowing_b1.FnJudgeFormsDifferOnlyInDeadline", spec := "fnJudgeFormsDifferOnlyInDeadline", unfollowed := true, recurses := true, apart := false }
def FnJudgeFormsDifferOnlyInDeadlineSaid : Prop := fnJudgeFormsDifferOnlyInDeadlineRow.holds Try.pinned (OpenSpec.ofChange fnJudgeFormsDifferOnlyInDeadlineSpec)

/-- ITS FALSE NEIGHBOUR: 'it returns false'. Refute it at one input. -/
def fnJudgeFormsDifferOnlyInDeadlineWrong : ChangeSpec := { name := "fnJudgeFormsDifferOnlyInDeadline", fn := fun _ => fun
  | [d1, d2] => { results := [.lit (.bool false)], args := [d1, d2] }
  | _ => none }
def FnJudgeFormsDifferOnlyInDeadlineWrongFalsely : Prop := fnJudgeFormsDifferOnlyInDeadlineRow.holds Try.pinned (OpenSpec.ofChange fnJudgeFormsDifferOnlyInDeadlineWrong)

/-- 'zzlaws_narrowing_b1.FnReportCrashesSplitsAtAnyCut': WHATEVER THE INPUT: true; the input reads as it did. -/
def fnReportCrashesSplitsAtAnyCutSpec : ChangeSpec := { name := "fnReportCrashesSplitsAtAnyCut", fn := fun _ => fun
  | [d1, d2, d3] => { results := [.lit (.bool true)], args := [d1, d2, d3] }
  | _ => none }
def fnReportCrashesSplitsAtAnyCutRow : OpenClaim := { program := "qxb6613846a", sum := "febfb2078f6b36021f275398ad69959166978050de7567d3a4f6759ff728ef93", func := "example.com/kagree/kagree/zzlaws_narrowing_b1.FnReportCrashesSplitsAtAnyCut", spec := "fnReportCrashesSplitsAtAnyCut", unfollowed := true, recurses := true, apart := false }
def FnReportCrashesSplitsAtAnyCutSaid : Prop := fnReportCrashesSplitsAtAnyCutRow.holds Try.pinned (OpenSpec.ofChange fnReportCrashesSplitsAtAnyCutSpec)

/-- ITS FALSE NEIGHBOUR: 'it returns false'. Refute it at one input. -/
def fnReportCrashesSplitsAtAnyCutWrong : ChangeSpec := { name := "fnReportCrashesSplitsAtAnyCut", fn := fun _ => fun
  | [d1, d2, d3] => { results := [.lit (.bool false)], args := [d1, d2, d3] }
  | _ => none }
def FnReportCrashesSplitsAtAnyCutWrongFalsely : Prop := fnReportCrashesSplitsAtAnyCutRow.holds Try.pinned (OpenSpec.ofChange fnReportCrashesSplitsAtAnyCutWrong)

/-- 'zzlaws_narrowing_b1.FnReportCrashesInsertOne': WHATEVER THE INPUT: true; the input reads as it did. -/
def fnReportCrashesInsertOneSpec : ChangeSpec := { name := "fnReportCrashesInsertOne", fn := fun _ => fun
  | [d1, d2, d3, d4] => { results := [.lit (.bool true)], args := [d1, d2, d3, d4] }
  | _ => none }
def fnReportCrashesInsertOneRow : OpenClaim := { program := "qxb6613846a", sum := "febfb2078f6b36021f275398ad69959166978050de7567d3a4f6759ff728ef93", func := "example.com/kagree/kagree/zzlaws_narrowing_b1.FnReportCrashesInsertOne", spec := "fnReportCrashesInsertOne", unfollowed := true, recurses := true, apart := false }
def FnReportCrashesInsertOneSaid : Prop := fnReportCrashesInsertOneRow.holds Try.pinned (OpenSpec.ofChange fnReportCrashesInsertOneSpec)

/-- ITS FALSE NEIGHBOUR: 'it returns false'. Refute it at one input. -/
def fnReportCrashesInsertOneWrong : ChangeSpec := { name := "fnReportCrashesInsertOne", fn := fun _ => fun
  | [d1, d2, d3, d4] => { results := [.lit (.bool false)], args := [d1, d2, d3, d4] }
  | _ => none }
def FnReportCrashesInsertOneWrongFalsely : Prop := fnReportCrashesInsertOneRow.holds Try.pinned (OpenSpec.ofChange fnReportCrashesInsertOneWrong)

/-- 'zzlaws_narrowing_b1.FnCrashReachedExactlyWhenSomethingCame': WHATEVER THE INPUT: true; the input reads as it did. -/
def fnCrashReachedExactlyWhenSomethingCameSpec : ChangeSpec := { name := "fnCrashReachedExactlyWhenSomethingCame", fn := fun _ => fun
  | [d1, d2, d3, d4, d5, d6] => { results := [.lit (.bool true)], args := [d1, d2, d3, d4, d5, d6] }
  | _ => none }
def fnCrashReachedExactlyWhenSomethingCameRow : OpenClaim := { program := "qxb6613846a", sum := "febfb2078f6b36021f275398ad69959166978050de7567d3a4f6759ff728ef93", func := "example.com/kagree/kagree/zzlaws_narrowing_b1.FnCrashReachedExactlyWhenSomethingCame", spec := "fnCrashReachedExactlyWhenSomethingCame", apart := false }
def FnCrashReachedExactlyWhenSomethingCameSaid : Prop := fnCrashReachedExactlyWhenSomethingCameRow.holds Try.pinned (OpenSpec.ofChange fnCrashReachedExactlyWhenSomethingCameSpec)

/-- ITS FALSE NEIGHBOUR: 'it returns false'. Refute it at one input. -/
def fnCrashReachedExactlyWhenSomethingCameWrong : ChangeSpec := { name := "fnCrashReachedExactlyWhenSomethingCame", fn := fun _ => fun
  | [d1, d2, d3, d4, d5, d6] => { results := [.lit (.bool false)], args := [d1, d2, d3, d4, d5, d6] }
  | _ => none }
def FnCrashReachedExactlyWhenSomethingCameWrongFalsely : Prop := fnCrashReachedExactlyWhenSomethingCameRow.holds Try.pinned (OpenSpec.ofChange fnCrashReachedExactlyWhenSomethingCameWrong)

end Rows
end Go.Proofs.Qxb6613846a
