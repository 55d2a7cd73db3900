/-
  DERIVED. GIVEN WITH THE SEED: THE CARDS: each row of YoedawDoorRows.lean that lists a variable, with what it lists TIED to the program's text (the seventh form; the later family's looks); each row that meets fmt, with fmt's text TOLD by the authors' own Lean function (tested against real Go, not proved from fmt's source: count such statements apart). THE CARD IS WHAT COUNTS. Prove the row's statement (the work); the ties are given (YoedawDoorTie.lean); close each card by the builder's one call (the guide's Derived/Test/ToyasCard.lean, 'card_holds'). Laid BY PROGRAM, IN A SANDBOX (cutbox-door.mjs). By AI agents, Wed Nov 11 2026. No macro, syntax, notation, axiom, sorry.
-/
import Derived.Test.YoedawDoorRows
import GoSem.ClaimSeven
namespace Go.Proofs.YoedawDoor
namespace Rows

/-- THE TIED CARD OF 'zzlaws_parser_b4.FnBinaryExprStringChainClosedForm'. -/
def fnBinaryExprStringChainClosedFormCard : Claim7 := { stood := { row := fnBinaryExprStringChainClosedFormRow, standIns := [], harness := (true, "825cb059c29ae276dcfcabaf371d1116ca0ca6c6fd9a87a1520629e41b442c40"), looks := false }, kinds := [], alts := [], laidByText := true, laidKinds := [.data, .data, .data, .data], laidTests := true, laidLooks := .later }
def FnBinaryExprStringChainClosedFormCardSaid : Prop := Claim7.holds Edag.pinned (.plain (OpenSpec.ofChange fnBinaryExprStringChainClosedFormSpec)) fnBinaryExprStringChainClosedFormCard

/-- THE TIED CARD OF 'zzlaws_parser_b4.FnBinaryExprStringBalancedAndShapeVisible'. -/
def fnBinaryExprStringBalancedAndShapeVisibleCard : Claim7 := { stood := { row := fnBinaryExprStringBalancedAndShapeVisibleRow, standIns := [], harness := (true, "825cb059c29ae276dcfcabaf371d1116ca0ca6c6fd9a87a1520629e41b442c40"), looks := false }, kinds := [], alts := [], laidByText := true, laidKinds := [.data, .data, .data, .data], laidTests := true, laidLooks := .later }
def FnBinaryExprStringBalancedAndShapeVisibleCardSaid : Prop := Claim7.holds Edag.pinned (.plain (OpenSpec.ofChange fnBinaryExprStringBalancedAndShapeVisibleSpec)) fnBinaryExprStringBalancedAndShapeVisibleCard
end Rows
end Go.Proofs.YoedawDoor
