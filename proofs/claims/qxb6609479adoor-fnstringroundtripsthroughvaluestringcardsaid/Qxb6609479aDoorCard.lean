/-
  THE CARD 'Rows.FnStringRoundTripsThroughValueStringCardSaid': the proved row and the given tie, by the builder's one call.
-/
import Derived.Test.Qxb6609479aDoorProofs
import Derived.Test.Qxb6609479aDoorTie
import Derived.Test.Qxb6609479aDoorCards
import Derived.SevenTiedAt
namespace Go.Proofs.Qxb6609479aDoor
open Go

theorem card_holds : Rows.FnStringRoundTripsThroughValueStringCardSaid :=
  Claim7.holds_tied_plain_at .later [] [.data, .data, .data] true (true, "bf17181252a1b3ff1b185ee512e8bdbf92145bada780ff660d76206c69b8b059") false
    row_holds (fun _ h => by cases h) (by kernel_rfl) (fun _ h => by cases h) fnStringRoundTripsThroughValueString_row_tie rfl ⟨rfl, rfl⟩ (by kernel_rfl) rfl
    (fun f fn hf hfn => by
      obtain rfl : f = 3 := Option.some.inj ((show Tryd.prog.funcNamed Rows.fnStringRoundTripsThroughValueStringRow.func = some 3 by kernel_rfl).symm.trans hf) |>.symm
      obtain rfl : fn = Tryd.f3 := (Option.some.inj (Tryd.func3.symm.trans hfn)).symm
      exact ⟨by kernel_rfl, fun j t ht => by
        rw [Tryd.params3] at ht
        have h9 : t = 9 := by
          rcases j with _ | j
          · simpa using ht.symm
          · simp at ht
        subst h9
        exact (show Tryd.prog.wantsStandIn 9 = false by kernel_rfl)⟩)
    (by kernel_rfl)
end Go.Proofs.Qxb6609479aDoor
