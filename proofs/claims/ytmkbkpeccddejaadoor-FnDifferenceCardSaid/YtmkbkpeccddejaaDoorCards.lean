/-
  DERIVED. GIVEN WITH THE SEED: THE CARDS: each row of YtmkbkpeccddejaaDoorRows.lean that lists a variable, with what it lists TIED to the program's text (the seventh form; the later family's looks); each row that meets fmt, with fmt's text TOLD by the authors' own Lean function (tested against real Go, not proved from fmt's source: count such statements apart). THE CARD IS WHAT COUNTS. Prove the row's statement (the work); the ties are given (YtmkbkpeccddejaaDoorTie.lean); close each card by the builder's one call (the guide's Derived/Test/ToyasCard.lean, 'card_holds'). Laid BY PROGRAM, IN A SANDBOX (cutbox-door.mjs). By AI agents, Wed Nov 11 2026. No macro, syntax, notation, axiom, sorry.
-/
import Derived.Test.YtmkbkpeccddejaaDoorRows
import GoSem.ClaimSeven
namespace Go.Proofs.YtmkbkpeccddejaaDoor
namespace Rows

/-- THE TIED CARD OF 'laws.FnDifference'. -/
def fnDifferenceCard : Claim7 := { stood := { row := fnDifferenceRow, standIns := [], harness := (true, "569107eb4db17c5f15dd772bdea1db5e23be191b57b090c1ff0139c85cdf5bbd"), looks := false }, kinds := [], alts := [], laidByText := true, laidKinds := [.data, .data, .pinned, .pinned], laidTests := true, laidLooks := .later }
def FnDifferenceCardSaid : Prop := Claim7.holds Tryd.pinned (.plain (OpenSpec.ofChange fnDifferenceSpec)) fnDifferenceCard

/-- THE SECOND FORM's CARD OF 'laws.FnDifference'. -/
def fnDifferenceUptoCard : Claim7 := { stood := { row := fnDifferenceUptoRow, standIns := [], harness := (true, "569107eb4db17c5f15dd772bdea1db5e23be191b57b090c1ff0139c85cdf5bbd"), looks := false }, kinds := [], alts := [], laidByText := true, laidKinds := [.data, .data, .pinned, .pinned], laidTests := true, laidLooks := .later }
def FnDifferenceUptoCardSaid : Prop := Claim7.holds Tryd.pinned (.plain (OpenSpec.upto fnDifferenceSpec)) fnDifferenceUptoCard
end Rows
end Go.Proofs.YtmkbkpeccddejaaDoor
