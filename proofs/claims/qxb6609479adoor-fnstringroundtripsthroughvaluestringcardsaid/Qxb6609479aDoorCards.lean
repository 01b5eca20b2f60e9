/-
  DERIVED. GIVEN WITH THE SEED: THE CARDS: each row of Qxb6609479aDoorRows.lean that lists a variable, with what it lists TIED to the program's text (the seventh form; the later family's looks); each row that meets fmt, with fmt's text TOLD by the authors' own Lean function (tested against real Go, not proved from fmt's source: count such statements apart). THE CARD IS WHAT COUNTS. Prove the row's statement (the work); the ties are given (Qxb6609479aDoorTie.lean); close each card by the builder's one call (the guide's Derived/Test/ToyasCard.lean, 'card_holds'). Laid BY PROGRAM, IN A SANDBOX (cutbox-door.mjs). By AI agents, Wed Nov 11 2026. No macro, syntax, notation, axiom, sorry.
-/
import Derived.Test.Qxb6609479aDoorRows
import GoSem.ClaimSeven
namespace Go.Proofs.Qxb6609479aDoor
namespace Rows

/-- THE TIED CARD OF 'zzlaws_internal_storage_b1.FnStringRoundTripsThroughValueString'. -/
def fnStringRoundTripsThroughValueStringCard : Claim7 := { stood := { row := fnStringRoundTripsThroughValueStringRow, standIns := [], harness := (true, "bf17181252a1b3ff1b185ee512e8bdbf92145bada780ff660d76206c69b8b059"), looks := false }, kinds := [], alts := [], laidByText := true, laidKinds := [.data, .data, .data], laidTests := true, laidLooks := .later }
def FnStringRoundTripsThroughValueStringCardSaid : Prop := Claim7.holds Tryd.pinned (.plain (OpenSpec.ofChange fnStringRoundTripsThroughValueStringSpec)) fnStringRoundTripsThroughValueStringCard

/-- THE TIED CARD OF 'zzlaws_internal_storage_b1.FnSameNameAgainstASCIIKeyModel'. -/
def fnSameNameAgainstASCIIKeyModelCard : Claim7 := { stood := { row := fnSameNameAgainstASCIIKeyModelRow, standIns := [], harness := (true, "bf17181252a1b3ff1b185ee512e8bdbf92145bada780ff660d76206c69b8b059"), looks := false }, kinds := [], alts := [], laidByText := true, laidKinds := [.data, .data, .data, .pinned, .pinned], laidTests := true, laidLooks := .later }
def FnSameNameAgainstASCIIKeyModelCardSaid : Prop := Claim7.holds Tryd.pinned (.plain (OpenSpec.ofChange fnSameNameAgainstASCIIKeyModelSpec)) fnSameNameAgainstASCIIKeyModelCard

/-- THE TIED CARD OF 'zzlaws_internal_storage_b1.FnSameNameIgnoresASCIICaseAndRefusesALongerName'. -/
def fnSameNameIgnoresASCIICaseAndRefusesALongerNameCard : Claim7 := { stood := { row := fnSameNameIgnoresASCIICaseAndRefusesALongerNameRow, standIns := [], harness := (true, "bf17181252a1b3ff1b185ee512e8bdbf92145bada780ff660d76206c69b8b059"), looks := false }, kinds := [], alts := [], laidByText := true, laidKinds := [.data, .data, .data, .pinned, .pinned], laidTests := true, laidLooks := .later }
def FnSameNameIgnoresASCIICaseAndRefusesALongerNameCardSaid : Prop := Claim7.holds Tryd.pinned (.plain (OpenSpec.ofChange fnSameNameIgnoresASCIICaseAndRefusesALongerNameSpec)) fnSameNameIgnoresASCIICaseAndRefusesALongerNameCard
end Rows
end Go.Proofs.Qxb6609479aDoor
