/-
  DERIVED. GIVEN WITH THE SEED: THE CARDS: each row of YbulkazqwFmtRows.lean that lists a variable, with what it lists TIED to the program's text (the seventh form; the later family's looks); each row that meets fmt, with fmt's text TOLD by the authors' own Lean function (tested against real Go, not proved from fmt's source: count such statements apart). THE CARD IS WHAT COUNTS. Prove the row's statement (the work); the ties are given (YbulkazqwFmtTie.lean); close each card by the builder's one call (the guide's Derived/Test/ToyasCard.lean, 'card_holds'). Laid BY PROGRAM, IN A SANDBOX (cutbox-door.mjs). By AI agents, Wed Nov 11 2026. No macro, syntax, notation, axiom, sorry.
-/
import Derived.Test.YbulkazqwFmtRows
import GoSem.ClaimSeven
namespace Go.Proofs.YbulkazqwFmt
namespace Rows

/-- THE TOLD AND TIED CARD OF 'series.LawS2544CModel'. -/
def lawS2544CModelCard : Claim7 := { stood := { row := lawS2544CModelRow, standIns := [], harness := (true, "aed51965ccee2006b3bc65c5e4e7e4be4810bd575c2f0fcbaaab878599b44ccd"), looks := true }, told := true, laidByText := true, laidKinds := [.called], laidTests := true, laidLooks := .later, goes := false }
def LawS2544CModelToldSaid : Prop := Claim7.holds Ybaf.pinned (.plain (OpenSpec.ofChange lawS2544CModelSpec)) lawS2544CModelCard
/-- ITS FALSE NEIGHBOUR. Refute it at one input. -/
def LawS2544CModelToldWrongFalsely : Prop := Claim7.holds Ybaf.pinned (.plain (OpenSpec.ofChange lawS2544CModelWrong)) lawS2544CModelCard

/-- THE TOLD AND TIED CARD OF 'series.LawS2544CSpecialFirst'. -/
def lawS2544CSpecialFirstCard : Claim7 := { stood := { row := lawS2544CSpecialFirstRow, standIns := [], harness := (true, "aed51965ccee2006b3bc65c5e4e7e4be4810bd575c2f0fcbaaab878599b44ccd"), looks := true }, told := true, laidByText := true, laidKinds := [.called], laidTests := true, laidLooks := .later, goes := false }
def LawS2544CSpecialFirstToldSaid : Prop := Claim7.holds Ybaf.pinned (.plain (OpenSpec.ofChange lawS2544CSpecialFirstSpec)) lawS2544CSpecialFirstCard
/-- ITS FALSE NEIGHBOUR. Refute it at one input. -/
def LawS2544CSpecialFirstToldWrongFalsely : Prop := Claim7.holds Ybaf.pinned (.plain (OpenSpec.ofChange lawS2544CSpecialFirstWrong)) lawS2544CSpecialFirstCard
end Rows
end Go.Proofs.YbulkazqwFmt
