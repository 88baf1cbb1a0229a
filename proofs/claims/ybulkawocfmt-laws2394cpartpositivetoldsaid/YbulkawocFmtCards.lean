/-
  DERIVED. GIVEN WITH THE SEED: THE CARDS: each row of YbulkawocFmtRows.lean that lists a variable, with what it lists TIED to the program's text (the seventh form; the later family's looks); each row that meets fmt, with fmt's text TOLD by the authors' own Lean function (tested against real Go, not proved from fmt's source: count such statements apart). THE CARD IS WHAT COUNTS. Prove the row's statement (the work); the ties are given (YbulkawocFmtTie.lean); close each card by the builder's one call (the guide's Derived/Test/ToyasCard.lean, 'card_holds'). Laid BY PROGRAM, IN A SANDBOX (cutbox-door.mjs). By AI agents, Wed Nov 11 2026. No macro, syntax, notation, axiom, sorry.
-/
import Derived.Test.YbulkawocFmtRows
import GoSem.ClaimSeven
namespace Go.Proofs.YbulkawocFmt
namespace Rows

/-- THE TOLD CARD OF 'ledger.LawS2394CRefuses'. -/
def lawS2394CRefusesCard : Claim7 := { stood := { row := lawS2394CRefusesRow, standIns := [], harness := (true, "432f4129210b6132e845f253c87f68793aea4774ee31c04702afe6f8a8799bb9"), looks := true }, told := true, goes := false }
def LawS2394CRefusesToldSaid : Prop := Claim7.holds Ybaf.pinned (.plain (OpenSpec.ofChange lawS2394CRefusesSpec)) lawS2394CRefusesCard
/-- ITS FALSE NEIGHBOUR. Refute it at one input. -/
def LawS2394CRefusesToldWrongFalsely : Prop := Claim7.holds Ybaf.pinned (.plain (OpenSpec.ofChange lawS2394CRefusesWrong)) lawS2394CRefusesCard

/-- THE TOLD CARD OF 'ledger.LawS2394CPartPositive'. -/
def lawS2394CPartPositiveCard : Claim7 := { stood := { row := lawS2394CPartPositiveRow, standIns := [], harness := (true, "432f4129210b6132e845f253c87f68793aea4774ee31c04702afe6f8a8799bb9"), looks := true }, told := true, goes := false }
def LawS2394CPartPositiveToldSaid : Prop := Claim7.holds Ybaf.pinned (.plain (OpenSpec.ofChange lawS2394CPartPositiveSpec)) lawS2394CPartPositiveCard
/-- ITS FALSE NEIGHBOUR. Refute it at one input. -/
def LawS2394CPartPositiveToldWrongFalsely : Prop := Claim7.holds Ybaf.pinned (.plain (OpenSpec.ofChange lawS2394CPartPositiveWrong)) lawS2394CPartPositiveCard
end Rows
end Go.Proofs.YbulkawocFmt
