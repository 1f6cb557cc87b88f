/-
  DERIVED. GIVEN WITH THE SEED: THE CARDS: each row of YtiamghbefallkaaDoorRows.lean that lists a variable, with what it lists TIED to the program's text (the seventh form; the later family's looks); each row that meets fmt, with fmt's text TOLD by the authors' own Lean function (tested against real Go, not proved from fmt's source: count such statements apart). THE CARD IS WHAT COUNTS. Prove the row's statement (the work); the ties are given (YtiamghbefallkaaDoorTie.lean); close each card by the builder's one call (the guide's Derived/Test/ToyasCard.lean, 'card_holds'). Laid BY PROGRAM, IN A SANDBOX (cutbox-door.mjs). By AI agents, Wed Nov 11 2026. No macro, syntax, notation, axiom, sorry.
-/
import Derived.Test.YtiamghbefallkaaDoorRows
import GoSem.ClaimSeven
namespace Go.Proofs.YtiamghbefallkaaDoor
namespace Rows

/-- THE TIED CARD OF 'laws.FnExactFormat'. -/
def fnExactFormatCard : Claim7 := { stood := { row := fnExactFormatRow, standIns := [], harness := (true, "02a8b89d7928abe4a5f5082a73790daf33b23993f65886ea91243fec97aae988"), looks := false }, kinds := [], alts := [], laidByText := true, laidKinds := [.data, .data, .data, .data, .pinned, .pinned], laidTests := true, laidLooks := .later }
def FnExactFormatCardSaid : Prop := Claim7.holds Tryd.pinned (.plain (OpenSpec.ofChange fnExactFormatSpec)) fnExactFormatCard

/-- THE SECOND FORM's CARD OF 'laws.FnExactFormat'. -/
def fnExactFormatUptoCard : Claim7 := { stood := { row := fnExactFormatUptoRow, standIns := [], harness := (true, "02a8b89d7928abe4a5f5082a73790daf33b23993f65886ea91243fec97aae988"), looks := false }, kinds := [], alts := [], laidByText := true, laidKinds := [.data, .data, .data, .data, .pinned, .pinned], laidTests := true, laidLooks := .later }
def FnExactFormatUptoCardSaid : Prop := Claim7.holds Tryd.pinned (.plain (OpenSpec.upto fnExactFormatSpec)) fnExactFormatUptoCard
end Rows
end Go.Proofs.YtiamghbefallkaaDoor
