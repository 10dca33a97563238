/-
  DERIVED. GIVEN WITH THE SEED: THE CARDS: each row of YtlkmmkphpiamcaaDoorRows.lean that lists a variable, with what it lists TIED to the program's text (the seventh form; the later family's looks); each row that meets fmt, with fmt's text TOLD by the authors' own Lean function (tested against real Go, not proved from fmt's source: count such statements apart). THE CARD IS WHAT COUNTS. Prove the row's statement (the work); the ties are given (YtlkmmkphpiamcaaDoorTie.lean); close each card by the builder's one call (the guide's Derived/Test/ToyasCard.lean, 'card_holds'). Laid BY PROGRAM, IN A SANDBOX (cutbox-door.mjs). By AI agents, Wed Nov 11 2026. No macro, syntax, notation, axiom, sorry.
-/
import Derived.Test.YtlkmmkphpiamcaaDoorRows
import GoSem.ClaimSeven
namespace Go.Proofs.YtlkmmkphpiamcaaDoor
namespace Rows

/-- THE TIED CARD OF 'laws.FnRetained'. -/
def fnRetainedCard : Claim7 := { stood := { row := fnRetainedRow, standIns := [], harness := (true, "eb788b0f04676c78692212bb36afe92226c75e2516a355102f7bf01f31b6ccc4"), looks := false }, kinds := [], alts := [], laidByText := true, laidKinds := [.sentinel], laidTests := true, laidLooks := .later }
def FnRetainedCardSaid : Prop := Claim7.holds Tryd.pinned (.plain (OpenSpec.ofChange fnRetainedSpec)) fnRetainedCard

/-- THE TIED CARD OF 'laws.FnSizes'. -/
def fnSizesCard : Claim7 := { stood := { row := fnSizesRow, standIns := [], harness := (true, "eb788b0f04676c78692212bb36afe92226c75e2516a355102f7bf01f31b6ccc4"), looks := false }, kinds := [], alts := [], laidByText := true, laidKinds := [.sentinel], laidTests := true, laidLooks := .later }
def FnSizesCardSaid : Prop := Claim7.holds Tryd.pinned (.plain (OpenSpec.ofChange fnSizesSpec)) fnSizesCard

/-- THE SECOND FORM's CARD OF 'laws.FnRetained'. -/
def fnRetainedUptoCard : Claim7 := { stood := { row := fnRetainedUptoRow, standIns := [], harness := (true, "eb788b0f04676c78692212bb36afe92226c75e2516a355102f7bf01f31b6ccc4"), looks := false }, kinds := [], alts := [], laidByText := true, laidKinds := [.sentinel], laidTests := true, laidLooks := .later }
def FnRetainedUptoCardSaid : Prop := Claim7.holds Tryd.pinned (.plain (OpenSpec.upto fnRetainedSpec)) fnRetainedUptoCard

/-- THE SECOND FORM's CARD OF 'laws.FnSizes'. -/
def fnSizesUptoCard : Claim7 := { stood := { row := fnSizesUptoRow, standIns := [], harness := (true, "eb788b0f04676c78692212bb36afe92226c75e2516a355102f7bf01f31b6ccc4"), looks := false }, kinds := [], alts := [], laidByText := true, laidKinds := [.sentinel], laidTests := true, laidLooks := .later }
def FnSizesUptoCardSaid : Prop := Claim7.holds Tryd.pinned (.plain (OpenSpec.upto fnSizesSpec)) fnSizesUptoCard
end Rows
end Go.Proofs.YtlkmmkphpiamcaaDoor
