/-
  No cell of these rows narrows 'for every input' (looked for: loops, veiled, ifaces, maps, wideKeys, modest, calm, conditions, laid).
  DERIVED. THE GIVEN ROWS OF THIS SEAT. 6 by the template 'for every input the law returns true; each argument reads behind the call as it read before'; 0 by the template 'total and deterministic' (their statements: YbulkbdaqTotals.lean).
  GIVEN WITH THE SEED: the statements are not yours to turn. If you find one false, say at which input.
  Laid BY PROGRAM, IN A SANDBOX (cutbox-rows.mjs): the forced cells as the released guide's own fill.sh prints them over the translation 6f96fcefaf0795b9… (all of the seat's roots in one cut). By AI agents, Wed Nov 11 2026. No macro, syntax, notation, axiom, sorry.
-/
import Derived.Test.YbulkbdaqChecked
import GoSem.Claim
import GoSem.ClaimJoined
import GoSem.ClaimMapViews
import Derived.JoinedTies
import Derived.KernelRfl
namespace Go.Proofs.Ybulkbdaq
/- THE CELL 'sum', in the pinned program and in every row, IS THE sha256 OF THE DUMP (.gsa) THAT YbulkbdaqProg.lean LOADS. Nothing in Lean hashes anything: it is a label: what it is worth is what the hold of that sum in a sandbox is worth. -/
noncomputable def Yba.pinned : Pinned := { name := "ybulkbdaq", sum := "6f96fcefaf0795b936f48a8f67ae9857804548df0c41697fc17fee267d935cf8", checked := Yba.checked }
namespace Rows
def none {H : Type} : Left H := { results := [], args := [] }

/-- 'bracket.LawS2707ALabel': WHATEVER THE INPUT: true; the input reads as it did. -/
def lawS2707ALabelSpec : ChangeSpec := { name := "lawS2707ALabel", fn := fun _ => fun
  | [d1, d2, d3] => { results := [.lit (.bool true)], args := [d1, d2, d3] }
  | _ => none }
def lawS2707ALabelRow : OpenClaim := { program := "ybulkbdaq", sum := "6f96fcefaf0795b936f48a8f67ae9857804548df0c41697fc17fee267d935cf8", func := "example.com/bracket/bracket.LawS2707ALabel", spec := "lawS2707ALabel", apart := false }
def LawS2707ALabelSaid : Prop := lawS2707ALabelRow.holds Yba.pinned (OpenSpec.ofChange lawS2707ALabelSpec)

/-- ITS FALSE NEIGHBOUR: 'it returns false'. Refute it at one input. -/
def lawS2707ALabelWrong : ChangeSpec := { name := "lawS2707ALabel", fn := fun _ => fun
  | [d1, d2, d3] => { results := [.lit (.bool false)], args := [d1, d2, d3] }
  | _ => none }
def LawS2707ALabelWrongFalsely : Prop := lawS2707ALabelRow.holds Yba.pinned (OpenSpec.ofChange lawS2707ALabelWrong)

/-- 'bracket.LawS2707AApex': WHATEVER THE INPUT: true; the input reads as it did. -/
def lawS2707AApexSpec : ChangeSpec := { name := "lawS2707AApex", fn := fun _ => fun
  | [d] => { results := [.lit (.bool true)], args := [d] }
  | _ => none }
def lawS2707AApexRow : OpenClaim := { program := "ybulkbdaq", sum := "6f96fcefaf0795b936f48a8f67ae9857804548df0c41697fc17fee267d935cf8", func := "example.com/bracket/bracket.LawS2707AApex", spec := "lawS2707AApex", apart := false }
def LawS2707AApexSaid : Prop := lawS2707AApexRow.holds Yba.pinned (OpenSpec.ofChange lawS2707AApexSpec)

/-- ITS FALSE NEIGHBOUR: 'it returns false'. Refute it at one input. -/
def lawS2707AApexWrong : ChangeSpec := { name := "lawS2707AApex", fn := fun _ => fun
  | [d] => { results := [.lit (.bool false)], args := [d] }
  | _ => none }
def LawS2707AApexWrongFalsely : Prop := lawS2707AApexRow.holds Yba.pinned (OpenSpec.ofChange lawS2707AApexWrong)

/-- 'bracket.LawS2707BModel': WHATEVER THE INPUT: true; the input reads as it did. -/
def lawS2707BModelSpec : ChangeSpec := { name := "lawS2707BModel", fn := fun _ => fun
  | [d1, d2, d3, d4, d5, d6, d7, d8] => { results := [.lit (.bool true)], args := [d1, d2, d3, d4, d5, d6, d7, d8] }
  | _ => none }
def lawS2707BModelRow : OpenClaim := { program := "ybulkbdaq", sum := "6f96fcefaf0795b936f48a8f67ae9857804548df0c41697fc17fee267d935cf8", func := "example.com/bracket/bracket.LawS2707BModel", spec := "lawS2707BModel", unfollowed := true, recurses := true, apart := false }
def LawS2707BModelSaid : Prop := lawS2707BModelRow.holds Yba.pinned (OpenSpec.ofChange lawS2707BModelSpec)

/-- ITS FALSE NEIGHBOUR: 'it returns false'. Refute it at one input. -/
def lawS2707BModelWrong : ChangeSpec := { name := "lawS2707BModel", fn := fun _ => fun
  | [d1, d2, d3, d4, d5, d6, d7, d8] => { results := [.lit (.bool false)], args := [d1, d2, d3, d4, d5, d6, d7, d8] }
  | _ => none }
def LawS2707BModelWrongFalsely : Prop := lawS2707BModelRow.holds Yba.pinned (OpenSpec.ofChange lawS2707BModelWrong)

/-- 'bracket.LawS2707BShape': WHATEVER THE INPUT: true; the input reads as it did. -/
def lawS2707BShapeSpec : ChangeSpec := { name := "lawS2707BShape", fn := fun _ => fun
  | [d1, d2, d3, d4, d5, d6, d7, d8] => { results := [.lit (.bool true)], args := [d1, d2, d3, d4, d5, d6, d7, d8] }
  | _ => none }
def lawS2707BShapeRow : OpenClaim := { program := "ybulkbdaq", sum := "6f96fcefaf0795b936f48a8f67ae9857804548df0c41697fc17fee267d935cf8", func := "example.com/bracket/bracket.LawS2707BShape", spec := "lawS2707BShape", unfollowed := true, recurses := true, apart := false }
def LawS2707BShapeSaid : Prop := lawS2707BShapeRow.holds Yba.pinned (OpenSpec.ofChange lawS2707BShapeSpec)

/-- ITS FALSE NEIGHBOUR: 'it returns false'. Refute it at one input. -/
def lawS2707BShapeWrong : ChangeSpec := { name := "lawS2707BShape", fn := fun _ => fun
  | [d1, d2, d3, d4, d5, d6, d7, d8] => { results := [.lit (.bool false)], args := [d1, d2, d3, d4, d5, d6, d7, d8] }
  | _ => none }
def LawS2707BShapeWrongFalsely : Prop := lawS2707BShapeRow.holds Yba.pinned (OpenSpec.ofChange lawS2707BShapeWrong)

/-- 'bracket.LawS2707CValue': WHATEVER THE INPUT: true; the input reads as it did. -/
def lawS2707CValueSpec : ChangeSpec := { name := "lawS2707CValue", fn := fun _ => fun
  | [d1, d2, d3] => { results := [.lit (.bool true)], args := [d1, d2, d3] }
  | _ => none }
def lawS2707CValueRow : OpenClaim := { program := "ybulkbdaq", sum := "6f96fcefaf0795b936f48a8f67ae9857804548df0c41697fc17fee267d935cf8", func := "example.com/bracket/bracket.LawS2707CValue", spec := "lawS2707CValue", apart := false }
def LawS2707CValueSaid : Prop := lawS2707CValueRow.holds Yba.pinned (OpenSpec.ofChange lawS2707CValueSpec)

/-- ITS FALSE NEIGHBOUR: 'it returns false'. Refute it at one input. -/
def lawS2707CValueWrong : ChangeSpec := { name := "lawS2707CValue", fn := fun _ => fun
  | [d1, d2, d3] => { results := [.lit (.bool false)], args := [d1, d2, d3] }
  | _ => none }
def LawS2707CValueWrongFalsely : Prop := lawS2707CValueRow.holds Yba.pinned (OpenSpec.ofChange lawS2707CValueWrong)

/-- 'bracket.LawS2707CInRange': WHATEVER THE INPUT: true; the input reads as it did. -/
def lawS2707CInRangeSpec : ChangeSpec := { name := "lawS2707CInRange", fn := fun _ => fun
  | [d1, d2, d3] => { results := [.lit (.bool true)], args := [d1, d2, d3] }
  | _ => none }
def lawS2707CInRangeRow : OpenClaim := { program := "ybulkbdaq", sum := "6f96fcefaf0795b936f48a8f67ae9857804548df0c41697fc17fee267d935cf8", func := "example.com/bracket/bracket.LawS2707CInRange", spec := "lawS2707CInRange", apart := false }
def LawS2707CInRangeSaid : Prop := lawS2707CInRangeRow.holds Yba.pinned (OpenSpec.ofChange lawS2707CInRangeSpec)

/-- ITS FALSE NEIGHBOUR: 'it returns false'. Refute it at one input. -/
def lawS2707CInRangeWrong : ChangeSpec := { name := "lawS2707CInRange", fn := fun _ => fun
  | [d1, d2, d3] => { results := [.lit (.bool false)], args := [d1, d2, d3] }
  | _ => none }
def LawS2707CInRangeWrongFalsely : Prop := lawS2707CInRangeRow.holds Yba.pinned (OpenSpec.ofChange lawS2707CInRangeWrong)

end Rows
end Go.Proofs.Ybulkbdaq
