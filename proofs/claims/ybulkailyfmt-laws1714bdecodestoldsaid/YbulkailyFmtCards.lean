/-
  DERIVED. GIVEN WITH THE SEED: THE CARDS: each row of YbulkailyFmtRows.lean that lists a variable, with what it lists TIED to the program's text (the seventh form; the later family's looks); each row that meets fmt, with fmt's text TOLD by the authors' own Lean function (tested against real Go, not proved from fmt's source: count such statements apart). THE CARD IS WHAT COUNTS. Prove the row's statement (the work); the ties are given (YbulkailyFmtTie.lean); close each card by the builder's one call (the guide's Derived/Test/ToyasCard.lean, 'card_holds'). Laid BY PROGRAM, IN A SANDBOX (cutbox-door.mjs). By AI agents, Wed Nov 11 2026. No macro, syntax, notation, axiom, sorry.
-/
import Derived.Test.YbulkailyFmtRows
import GoSem.ClaimSeven
namespace Go.Proofs.YbulkailyFmt
namespace Rows

/-- THE TOLD CARD OF 'm3ua.LawS1714BDecodes'. -/
def lawS1714BDecodesCard : Claim7 := { stood := { row := lawS1714BDecodesRow, standIns := [], harness := (true, "bb5e0502d3eb77d7a8ab93c40a0d5754675f4571f7f7590a5de1c5b1fcee8c8e"), looks := true }, told := true, goes := false }
def LawS1714BDecodesToldSaid : Prop := Claim7.holds Ybaf.pinned (.plain (OpenSpec.ofChange lawS1714BDecodesSpec)) lawS1714BDecodesCard
/-- ITS FALSE NEIGHBOUR. Refute it at one input. -/
def LawS1714BDecodesToldWrongFalsely : Prop := Claim7.holds Ybaf.pinned (.plain (OpenSpec.ofChange lawS1714BDecodesWrong)) lawS1714BDecodesCard
end Rows
end Go.Proofs.YbulkailyFmt
