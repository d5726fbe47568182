/-
  No cell of these rows narrows 'for every input' (looked for: loops, veiled, ifaces, maps, wideKeys, modest, calm, conditions, laid).
  DERIVED. THE GIVEN ROWS OF THIS SEAT. 4 by the template 'for every input the law returns true; each argument reads behind the call as it read before'; 0 by the template 'total and deterministic' (their statements: YbulkazkyTotals.lean).
  GIVEN WITH THE SEED: the statements are not yours to turn. If you find one false, say at which input.
  Laid BY PROGRAM, IN A SANDBOX (cutbox-rows.mjs): the forced cells as the released guide's own fill.sh prints them over the translation 655322d7426b156f… (all of the seat's roots in one cut). By AI agents, Wed Nov 11 2026. No macro, syntax, notation, axiom, sorry.
-/
import Derived.Test.YbulkazkyChecked
import GoSem.Claim
import GoSem.ClaimJoined
import GoSem.ClaimMapViews
import Derived.JoinedTies
import Derived.KernelRfl
namespace Go.Proofs.Ybulkazky
/- THE CELL 'sum', in the pinned program and in every row, IS THE sha256 OF THE DUMP (.gsa) THAT YbulkazkyProg.lean LOADS. Nothing in Lean hashes anything: it is a label: what it is worth is what the hold of that sum in a sandbox is worth. -/
noncomputable def Yba.pinned : Pinned := { name := "ybulkazky", sum := "655322d7426b156f835da178a6d6e547ea8bd9aafc53eaeea578602239412919", checked := Yba.checked }
namespace Rows
def none {H : Type} : Left H := { results := [], args := [] }

/-- 'yaml.LawS2533BTable': WHATEVER THE INPUT: true; the input reads as it did. -/
def lawS2533BTableSpec : ChangeSpec := { name := "lawS2533BTable", fn := fun _ => fun
  | [d1, d2, d3, d4, d5] => { results := [.lit (.bool true)], args := [d1, d2, d3, d4, d5] }
  | _ => none }
def lawS2533BTableRow : OpenClaim := { program := "ybulkazky", sum := "655322d7426b156f835da178a6d6e547ea8bd9aafc53eaeea578602239412919", func := "quince.example/yaml.LawS2533BTable", spec := "lawS2533BTable", apart := false }
def LawS2533BTableSaid : Prop := lawS2533BTableRow.holds Yba.pinned (OpenSpec.ofChange lawS2533BTableSpec)

/-- ITS FALSE NEIGHBOUR: 'it returns false'. Refute it at one input. -/
def lawS2533BTableWrong : ChangeSpec := { name := "lawS2533BTable", fn := fun _ => fun
  | [d1, d2, d3, d4, d5] => { results := [.lit (.bool false)], args := [d1, d2, d3, d4, d5] }
  | _ => none }
def LawS2533BTableWrongFalsely : Prop := lawS2533BTableRow.holds Yba.pinned (OpenSpec.ofChange lawS2533BTableWrong)

/-- 'yaml.LawS2533BValueFree': WHATEVER THE INPUT: true; the input reads as it did. -/
def lawS2533BValueFreeSpec : ChangeSpec := { name := "lawS2533BValueFree", fn := fun _ => fun
  | [d1, d2, d3, d4, d5, d6, d7, d8, d9] => { results := [.lit (.bool true)], args := [d1, d2, d3, d4, d5, d6, d7, d8, d9] }
  | _ => none }
def lawS2533BValueFreeRow : OpenClaim := { program := "ybulkazky", sum := "655322d7426b156f835da178a6d6e547ea8bd9aafc53eaeea578602239412919", func := "quince.example/yaml.LawS2533BValueFree", spec := "lawS2533BValueFree", apart := false }
def LawS2533BValueFreeSaid : Prop := lawS2533BValueFreeRow.holds Yba.pinned (OpenSpec.ofChange lawS2533BValueFreeSpec)

/-- ITS FALSE NEIGHBOUR: 'it returns false'. Refute it at one input. -/
def lawS2533BValueFreeWrong : ChangeSpec := { name := "lawS2533BValueFree", fn := fun _ => fun
  | [d1, d2, d3, d4, d5, d6, d7, d8, d9] => { results := [.lit (.bool false)], args := [d1, d2, d3, d4, d5, d6, d7, d8, d9] }
  | _ => none }
def LawS2533BValueFreeWrongFalsely : Prop := lawS2533BValueFreeRow.holds Yba.pinned (OpenSpec.ofChange lawS2533BValueFreeWrong)

/-- 'yaml.LawS2533CTakesFirst': WHATEVER THE INPUT: true; the input reads as it did. -/
def lawS2533CTakesFirstSpec : ChangeSpec := { name := "lawS2533CTakesFirst", fn := fun _ => fun
  | [d1, d2] => { results := [.lit (.bool true)], args := [d1, d2] }
  | _ => none }
def lawS2533CTakesFirstRow : OpenClaim := { program := "ybulkazky", sum := "655322d7426b156f835da178a6d6e547ea8bd9aafc53eaeea578602239412919", func := "quince.example/yaml.LawS2533CTakesFirst", spec := "lawS2533CTakesFirst", apart := false }
def LawS2533CTakesFirstSaid : Prop := lawS2533CTakesFirstRow.holds Yba.pinned (OpenSpec.ofChange lawS2533CTakesFirstSpec)

/-- ITS FALSE NEIGHBOUR: 'it returns false'. Refute it at one input. -/
def lawS2533CTakesFirstWrong : ChangeSpec := { name := "lawS2533CTakesFirst", fn := fun _ => fun
  | [d1, d2] => { results := [.lit (.bool false)], args := [d1, d2] }
  | _ => none }
def LawS2533CTakesFirstWrongFalsely : Prop := lawS2533CTakesFirstRow.holds Yba.pinned (OpenSpec.ofChange lawS2533CTakesFirstWrong)

/-- 'yaml.LawS2533CDrainsPrefix': WHATEVER THE INPUT: true; the input reads as it did. -/
def lawS2533CDrainsPrefixSpec : ChangeSpec := { name := "lawS2533CDrainsPrefix", fn := fun _ => fun
  | [d1, d2] => { results := [.lit (.bool true)], args := [d1, d2] }
  | _ => none }
def lawS2533CDrainsPrefixRow : OpenClaim := { program := "ybulkazky", sum := "655322d7426b156f835da178a6d6e547ea8bd9aafc53eaeea578602239412919", func := "quince.example/yaml.LawS2533CDrainsPrefix", spec := "lawS2533CDrainsPrefix", apart := false }
def LawS2533CDrainsPrefixSaid : Prop := lawS2533CDrainsPrefixRow.holds Yba.pinned (OpenSpec.ofChange lawS2533CDrainsPrefixSpec)

/-- ITS FALSE NEIGHBOUR: 'it returns false'. Refute it at one input. -/
def lawS2533CDrainsPrefixWrong : ChangeSpec := { name := "lawS2533CDrainsPrefix", fn := fun _ => fun
  | [d1, d2] => { results := [.lit (.bool false)], args := [d1, d2] }
  | _ => none }
def LawS2533CDrainsPrefixWrongFalsely : Prop := lawS2533CDrainsPrefixRow.holds Yba.pinned (OpenSpec.ofChange lawS2533CDrainsPrefixWrong)

end Rows
end Go.Proofs.Ybulkazky
