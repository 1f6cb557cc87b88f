/-
  DERIVED. GIVEN WITH THE SEED: THE CARDS: each row of YtabjmoaijepdjaaDoorRows.lean that lists a variable, with what it lists TIED to the program's text (the seventh form; the later family's looks); each row that meets fmt, with fmt's text TOLD by the authors' own Lean function (tested against real Go, not proved from fmt's source: count such statements apart). THE CARD IS WHAT COUNTS. Prove the row's statement (the work); the ties are given (YtabjmoaijepdjaaDoorTie.lean); close each card by the builder's one call (the guide's Derived/Test/ToyasCard.lean, 'card_holds'). Laid BY PROGRAM, IN A SANDBOX (cutbox-door.mjs). By AI agents, Wed Nov 11 2026. No macro, syntax, notation, axiom, sorry.
-/
import Derived.Test.YtabjmoaijepdjaaDoorRows
import GoSem.ClaimSeven
namespace Go.Proofs.YtabjmoaijepdjaaDoor
namespace Rows

/-- THE TIED CARD OF 'laws.FnExactNumber'. -/
def fnExactNumberCard : Claim7 := { stood := { row := fnExactNumberRow, standIns := [], harness := (true, "05a3a0e6df1dd3af0445201d8ef77ed3d2de8e57f1f2675fbc2f3a4b4df81287"), looks := true }, kinds := [], alts := [], laidByText := true, laidKinds := [.data, .data, .widerDeep, .widerDeep, .data, .data, .data, .data, .data, .data, .sentinel, .sentinel, .listed, .data, .pinned, .pinned, .pinned], laidTests := true, laidLooks := .later }
def FnExactNumberCardSaid : Prop := Claim7.holds Tryd.pinned (.plain (OpenSpec.ofChange fnExactNumberSpec)) fnExactNumberCard

/-- THE SECOND FORM's CARD OF 'laws.FnExactNumber'. -/
def fnExactNumberUptoCard : Claim7 := { stood := { row := fnExactNumberUptoRow, standIns := [], harness := (true, "05a3a0e6df1dd3af0445201d8ef77ed3d2de8e57f1f2675fbc2f3a4b4df81287"), looks := true }, kinds := [], alts := [], laidByText := true, laidKinds := [.data, .data, .widerDeep, .widerDeep, .data, .data, .data, .data, .data, .data, .sentinel, .sentinel, .listed, .data, .pinned, .pinned, .pinned], laidTests := true, laidLooks := .later }
def FnExactNumberUptoCardSaid : Prop := Claim7.holds Tryd.pinned (.plain (OpenSpec.upto fnExactNumberSpec)) fnExactNumberUptoCard
end Rows
end Go.Proofs.YtabjmoaijepdjaaDoor
