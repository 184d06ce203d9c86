/-
  DERIVED. GIVEN WITH THE SEED: THE CARDS: each row of YbulkbczoFmtRows.lean that lists a variable, with what it lists TIED to the program's text (the seventh form; the later family's looks); each row that meets fmt, with fmt's text TOLD by the authors' own Lean function (tested against real Go, not proved from fmt's source: count such statements apart). THE CARD IS WHAT COUNTS. Prove the row's statement (the work); the ties are given (YbulkbczoFmtTie.lean); close each card by the builder's one call (the guide's Derived/Test/ToyasCard.lean, 'card_holds'). Laid BY PROGRAM, IN A SANDBOX (cutbox-door.mjs). By AI agents, Wed Nov 11 2026. No macro, syntax, notation, axiom, sorry.
-/
import Derived.Test.YbulkbczoFmtRows
import GoSem.ClaimSeven
namespace Go.Proofs.YbulkbczoFmt
namespace Rows

/-- THE TOLD CARD OF 'scenario.LawS2705CClasses'. -/
def lawS2705CClassesCard : Claim7 := { stood := { row := lawS2705CClassesRow, standIns := [], harness := (true, "43b6335acabc049df6c713118326ac642005c7103ec05bfd2d1ea4450de7dd62"), looks := false }, told := true, goes := false }
def LawS2705CClassesToldSaid : Prop := Claim7.holds Ybaf.pinned (.plain (OpenSpec.ofChange lawS2705CClassesSpec)) lawS2705CClassesCard
/-- ITS FALSE NEIGHBOUR. Refute it at one input. -/
def LawS2705CClassesToldWrongFalsely : Prop := Claim7.holds Ybaf.pinned (.plain (OpenSpec.ofChange lawS2705CClassesWrong)) lawS2705CClassesCard

/-- THE TOLD CARD OF 'scenario.LawS2705CCuts'. -/
def lawS2705CCutsCard : Claim7 := { stood := { row := lawS2705CCutsRow, standIns := [], harness := (true, "43b6335acabc049df6c713118326ac642005c7103ec05bfd2d1ea4450de7dd62"), looks := false }, told := true, goes := false }
def LawS2705CCutsToldSaid : Prop := Claim7.holds Ybaf.pinned (.plain (OpenSpec.ofChange lawS2705CCutsSpec)) lawS2705CCutsCard
/-- ITS FALSE NEIGHBOUR. Refute it at one input. -/
def LawS2705CCutsToldWrongFalsely : Prop := Claim7.holds Ybaf.pinned (.plain (OpenSpec.ofChange lawS2705CCutsWrong)) lawS2705CCutsCard
end Rows
end Go.Proofs.YbulkbczoFmt
