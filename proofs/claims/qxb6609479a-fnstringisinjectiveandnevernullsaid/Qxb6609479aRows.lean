/-
  No cell of these rows narrows 'for every input' (looked for: loops, veiled, ifaces, maps, wideKeys, modest, calm, conditions, laid).
  DERIVED. THE GIVEN ROWS OF THIS SEAT. 1 by the template 'for every input the law returns true; each argument reads behind the call as it read before'; 0 by the template 'total and deterministic' (their statements: Qxb6609479aTotals.lean).
  GIVEN WITH THE SEED: the statements are not yours to turn. If you find one false, say at which input.
  Laid BY PROGRAM, IN A SANDBOX (cutbox-rows.mjs): the forced cells as the released guide's own fill.sh prints them over the translation 5ca3681005864bbb… (all of the seat's roots in one cut). By AI agents, Wed Nov 11 2026. No macro, syntax, notation, axiom, sorry.
-/
import Derived.Test.Qxb6609479aChecked
import GoSem.Claim
import GoSem.ClaimJoined
import GoSem.ClaimMapViews
import Derived.JoinedTies
import Derived.KernelRfl
namespace Go.Proofs.Qxb6609479a
/- THE CELL 'sum', in the pinned program and in every row, IS THE sha256 OF THE DUMP (.gsa) THAT Qxb6609479aProg.lean LOADS. Nothing in Lean hashes anything: it is a label: what it is worth is what the hold of that sum in a sandbox is worth. -/
noncomputable def Try.pinned : Pinned := { name := "qxb6609479a", sum := "5ca3681005864bbb50a95c43ff2ad518f71df232f22be219924c5d4d75811404", checked := Try.checked }
namespace Rows
def none {H : Type} : Left H := { results := [], args := [] }

/-- 'zzlaws_internal_storage_b1.FnStringIsInjectiveAndNeverNull': WHATEVER THE INPUT: true; the input reads as it did. -/
def fnStringIsInjectiveAndNeverNullSpec : ChangeSpec := { name := "fnStringIsInjectiveAndNeverNull", fn := fun _ => fun
  | [d1, d2] => { results := [.lit (.bool true)], args := [d1, d2] }
  | _ => none }
def fnStringIsInjectiveAndNeverNullRow : OpenClaim := { program := "qxb6609479a", sum := "5ca3681005864bbb50a95c43ff2ad518f71df232f22be219924c5d4d75811404", func := "example.com/palimpsest/palimpsest/zzlaws_internal_storage_b1.FnStringIsInjectiveAndNeverNull", spec := "fnStringIsInjectiveAndNeverNull", apart := false }
def FnStringIsInjectiveAndNeverNullSaid : Prop := fnStringIsInjectiveAndNeverNullRow.holds Try.pinned (OpenSpec.ofChange fnStringIsInjectiveAndNeverNullSpec)

/-- ITS FALSE NEIGHBOUR: 'it returns false'. Refute it at one input. -/
def fnStringIsInjectiveAndNeverNullWrong : ChangeSpec := { name := "fnStringIsInjectiveAndNeverNull", fn := fun _ => fun
  | [d1, d2] => { results := [.lit (.bool false)], args := [d1, d2] }
  | _ => none }
def FnStringIsInjectiveAndNeverNullWrongFalsely : Prop := fnStringIsInjectiveAndNeverNullRow.holds Try.pinned (OpenSpec.ofChange fnStringIsInjectiveAndNeverNullWrong)

end Rows
end Go.Proofs.Qxb6609479a
