/-
  DERIVED. GIVEN WITH THE SEED: THE CARDS: each row of YbulkajboFmtRows.lean that lists a variable, with what it lists TIED to the program's text (the seventh form; the later family's looks); each row that meets fmt, with fmt's text TOLD by the authors' own Lean function (tested against real Go, not proved from fmt's source: count such statements apart). THE CARD IS WHAT COUNTS. Prove the row's statement (the work); the ties are given (YbulkajboFmtTie.lean); close each card by the builder's one call (the guide's Derived/Test/ToyasCard.lean, 'card_holds'). Laid BY PROGRAM, IN A SANDBOX (cutbox-door.mjs). By AI agents, Wed Nov 11 2026. No macro, syntax, notation, axiom, sorry.
-/
import Derived.Test.YbulkajboFmtRows
import GoSem.ClaimSeven
namespace Go.Proofs.YbulkajboFmt
namespace Rows

/-- THE TOLD CARD OF 'sim.LawS1743AExact'. -/
def lawS1743AExactCard : Claim7 := { stood := { row := lawS1743AExactRow, standIns := [], harness := (true, "76efeb365924219506a87a6a17e249adad1c3185f0f14e1c4c70e154f4437733"), looks := false }, told := true, goes := false }
def LawS1743AExactToldSaid : Prop := Claim7.holds Ybaf.pinned (.plain (OpenSpec.ofChange lawS1743AExactSpec)) lawS1743AExactCard
/-- ITS FALSE NEIGHBOUR. Refute it at one input. -/
def LawS1743AExactToldWrongFalsely : Prop := Claim7.holds Ybaf.pinned (.plain (OpenSpec.ofChange lawS1743AExactWrong)) lawS1743AExactCard

/-- THE TOLD CARD OF 'sim.LawS1743AOrder'. -/
def lawS1743AOrderCard : Claim7 := { stood := { row := lawS1743AOrderRow, standIns := [], harness := (true, "76efeb365924219506a87a6a17e249adad1c3185f0f14e1c4c70e154f4437733"), looks := false }, told := true, goes := false }
def LawS1743AOrderToldSaid : Prop := Claim7.holds Ybaf.pinned (.plain (OpenSpec.ofChange lawS1743AOrderSpec)) lawS1743AOrderCard
/-- ITS FALSE NEIGHBOUR. Refute it at one input. -/
def LawS1743AOrderToldWrongFalsely : Prop := Claim7.holds Ybaf.pinned (.plain (OpenSpec.ofChange lawS1743AOrderWrong)) lawS1743AOrderCard
end Rows
end Go.Proofs.YbulkajboFmt
