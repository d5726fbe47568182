/-
  NARROWER THAN 'FOR EVERY INPUT', by the rows' own cells (each row's printed sentence says how): LawS2544CModel: ifaces, laid · LawS2544CSpecialFirst: ifaces, laid.
  DERIVED. THE GIVEN ROWS OF THIS SEAT. 2 by the template 'for every input the law returns true; each argument reads behind the call as it read before'; 0 by the template 'total and deterministic' (their statements: YbulkazqwFmtTotals.lean).
  GIVEN WITH THE SEED: the statements are not yours to turn. If you find one false, say at which input.
  Laid BY PROGRAM, IN A SANDBOX (cutbox-rows.mjs): the forced cells as the released guide's own fill.sh prints them over the translation ed20c1072bc5a823… (all of the seat's roots in one cut). By AI agents, Wed Nov 11 2026. No macro, syntax, notation, axiom, sorry.
-/
import Derived.Test.YbulkazqwFmtChecked
import GoSem.Claim
import GoSem.ClaimJoined
import GoSem.ClaimMapViews
import Derived.JoinedTies
import Derived.KernelRfl
namespace Go.Proofs.YbulkazqwFmt
/- THE CELL 'sum', in the pinned program and in every row, IS THE sha256 OF THE DUMP (.gsa) THAT YbulkazqwFmtProg.lean LOADS. Nothing in Lean hashes anything: it is a label: what it is worth is what the hold of that sum in a sandbox is worth. -/
noncomputable def Ybaf.pinned : Pinned := { name := "ybulkazqwfmt", sum := "ed20c1072bc5a8231c22e8008ab1b4270b52a14925849d2fa8703375a60830e4", checked := Ybaf.checked }
namespace Rows
def none {H : Type} : Left H := { results := [], args := [] }

/- WHAT THE LISTED PACKAGE-LEVEL VARIABLES READ AS WHEN THE CALL BEGINS. Each datum BY PROGRAM (the guide's laid-datum.mjs) off the statement by which the dump's own 'gosem.cut.vars' lays the variable. In a bare row this is a premise. The card (YbulkazqwFmtCards.lean) ties it to the program's text. -/
def laid_example_com_bidclear_bidclear_pkg_series_errNoPeriod {H : Type} : DataW H := .iface "*errors.errorString" (.ptr (.agg [.lit (.string [116, 104, 101, 32, 102, 97, 99, 116, 115, 32, 103, 105, 118, 101, 32, 110, 111, 32, 100, 105, 118, 105, 100, 101, 110, 100, 32, 112, 101, 114, 105, 111, 100, 44, 32, 98, 121, 32, 112, 101, 114, 105, 111, 100, 95, 100, 97, 121, 115, 32, 111, 114, 32, 112, 101, 114, 105, 111, 100, 95, 121, 101, 97, 114, 115])]))

/-- 'series.LawS2544CModel': WHATEVER THE INPUT: true; the input reads as it did. -/
def lawS2544CModelSpec : ChangeSpec := { name := "lawS2544CModel", vars := ["example.com/bidclear/bidclear/pkg/series.errNoPeriod"], fn := fun _ => fun
  | [d1, d2, d3, d4, d5, d6, d7, g1] => { results := [.lit (.bool true)], args := [d1, d2, d3, d4, d5, d6, d7], vars := [g1] }
  | _ => none }
def lawS2544CModelRow : OpenClaim := { program := "ybulkazqwfmt", sum := "ed20c1072bc5a8231c22e8008ab1b4270b52a14925849d2fa8703375a60830e4", func := "example.com/bidclear/bidclear/pkg/series.LawS2544CModel", spec := "lawS2544CModel", stops := ["fmt.errorf, its operands' methods called", "fmt.Sprintf"], inPlace := ["fmt.errorf", "internal/reflectlite.TypeOf"], unfollowed := true, recurses := true, named := ["example.com/bidclear/bidclear/pkg/series.errNoPeriod"], ifaces := true, apart := false, laid := [("example.com/bidclear/bidclear/pkg/series.errNoPeriod", laid_example_com_bidclear_bidclear_pkg_series_errNoPeriod)] }
/-- NO THEOREM (fmt's text is open here; it may be false): for the released tool's asking of the row's closed facts alone. THE STATEMENT IS 'LawS2544CModelToldSaid' (YbulkazqwFmtCards.lean). -/
def LawS2544CModelFormAsk : Prop := lawS2544CModelRow.holds Ybaf.pinned (OpenSpec.ofChange lawS2544CModelSpec)

/-- ITS FALSE NEIGHBOUR: 'it returns false'. Refute it at one input. -/
def lawS2544CModelWrong : ChangeSpec := { name := "lawS2544CModel", vars := ["example.com/bidclear/bidclear/pkg/series.errNoPeriod"], fn := fun _ => fun
  | [d1, d2, d3, d4, d5, d6, d7, g1] => { results := [.lit (.bool false)], args := [d1, d2, d3, d4, d5, d6, d7], vars := [g1] }
  | _ => none }
def LawS2544CModelWrongFormAsk : Prop := lawS2544CModelRow.holds Ybaf.pinned (OpenSpec.ofChange lawS2544CModelWrong)

/-- 'series.LawS2544CSpecialFirst': WHATEVER THE INPUT: true; the input reads as it did. -/
def lawS2544CSpecialFirstSpec : ChangeSpec := { name := "lawS2544CSpecialFirst", vars := ["example.com/bidclear/bidclear/pkg/series.errNoPeriod"], fn := fun _ => fun
  | [d1, d2, d3, g1] => { results := [.lit (.bool true)], args := [d1, d2, d3], vars := [g1] }
  | _ => none }
def lawS2544CSpecialFirstRow : OpenClaim := { program := "ybulkazqwfmt", sum := "ed20c1072bc5a8231c22e8008ab1b4270b52a14925849d2fa8703375a60830e4", func := "example.com/bidclear/bidclear/pkg/series.LawS2544CSpecialFirst", spec := "lawS2544CSpecialFirst", stops := ["fmt.errorf, its operands' methods called", "fmt.Sprintf"], inPlace := ["fmt.errorf"], unfollowed := true, recurses := true, named := ["example.com/bidclear/bidclear/pkg/series.errNoPeriod"], ifaces := true, apart := false, laid := [("example.com/bidclear/bidclear/pkg/series.errNoPeriod", laid_example_com_bidclear_bidclear_pkg_series_errNoPeriod)] }
/-- NO THEOREM (fmt's text is open here; it may be false): for the released tool's asking of the row's closed facts alone. THE STATEMENT IS 'LawS2544CSpecialFirstToldSaid' (YbulkazqwFmtCards.lean). -/
def LawS2544CSpecialFirstFormAsk : Prop := lawS2544CSpecialFirstRow.holds Ybaf.pinned (OpenSpec.ofChange lawS2544CSpecialFirstSpec)

/-- ITS FALSE NEIGHBOUR: 'it returns false'. Refute it at one input. -/
def lawS2544CSpecialFirstWrong : ChangeSpec := { name := "lawS2544CSpecialFirst", vars := ["example.com/bidclear/bidclear/pkg/series.errNoPeriod"], fn := fun _ => fun
  | [d1, d2, d3, g1] => { results := [.lit (.bool false)], args := [d1, d2, d3], vars := [g1] }
  | _ => none }
def LawS2544CSpecialFirstWrongFormAsk : Prop := lawS2544CSpecialFirstRow.holds Ybaf.pinned (OpenSpec.ofChange lawS2544CSpecialFirstWrong)

end Rows
end Go.Proofs.YbulkazqwFmt
