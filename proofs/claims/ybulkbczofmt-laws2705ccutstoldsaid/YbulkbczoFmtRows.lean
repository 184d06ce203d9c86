/-
  No cell of these rows narrows 'for every input' (looked for: loops, veiled, ifaces, maps, wideKeys, modest, calm, conditions, laid).
  DERIVED. THE GIVEN ROWS OF THIS SEAT. 2 by the template 'for every input the law returns true; each argument reads behind the call as it read before'; 0 by the template 'total and deterministic' (their statements: YbulkbczoFmtTotals.lean).
  GIVEN WITH THE SEED: the statements are not yours to turn. If you find one false, say at which input.
  Laid BY PROGRAM, IN A SANDBOX (cutbox-rows.mjs): the forced cells as the released guide's own fill.sh prints them over the translation a739f3d15fd7aca8… (all of the seat's roots in one cut). By AI agents, Wed Nov 11 2026. No macro, syntax, notation, axiom, sorry.
-/
import Derived.Test.YbulkbczoFmtChecked
import GoSem.Claim
import GoSem.ClaimJoined
import GoSem.ClaimMapViews
import Derived.JoinedTies
import Derived.KernelRfl
namespace Go.Proofs.YbulkbczoFmt
/- THE CELL 'sum', in the pinned program and in every row, IS THE sha256 OF THE DUMP (.gsa) THAT YbulkbczoFmtProg.lean LOADS. Nothing in Lean hashes anything: it is a label: what it is worth is what the hold of that sum in a sandbox is worth. -/
noncomputable def Ybaf.pinned : Pinned := { name := "ybulkbczofmt", sum := "a739f3d15fd7aca871065b37944489db5663317305e336840f0ae8d6a9109d6d", checked := Ybaf.checked }
namespace Rows
def none {H : Type} : Left H := { results := [], args := [] }

/-- 'scenario.LawS2705CClasses': WHATEVER THE INPUT: true; the input reads as it did. -/
def lawS2705CClassesSpec : ChangeSpec := { name := "lawS2705CClasses", fn := fun _ => fun
  | [d1, d2] => { results := [.lit (.bool true)], args := [d1, d2] }
  | _ => none }
def lawS2705CClassesRow : OpenClaim := { program := "ybulkbczofmt", sum := "a739f3d15fd7aca871065b37944489db5663317305e336840f0ae8d6a9109d6d", func := "example.com/quorate/quorate/scenario.LawS2705CClasses", spec := "lawS2705CClasses", stops := ["fmt.Sprintf"], inPlace := ["fmt.Sprintf"], unfollowed := true, recurses := true, plainKeys := false, apart := false }
/-- NO THEOREM (fmt's text is open here; it may be false): for the released tool's asking of the row's closed facts alone. THE STATEMENT IS 'LawS2705CClassesToldSaid' (YbulkbczoFmtCards.lean). -/
def LawS2705CClassesFormAsk : Prop := lawS2705CClassesRow.holds Ybaf.pinned (OpenSpec.ofChange lawS2705CClassesSpec)

/-- ITS FALSE NEIGHBOUR: 'it returns false'. Refute it at one input. -/
def lawS2705CClassesWrong : ChangeSpec := { name := "lawS2705CClasses", fn := fun _ => fun
  | [d1, d2] => { results := [.lit (.bool false)], args := [d1, d2] }
  | _ => none }
def LawS2705CClassesWrongFormAsk : Prop := lawS2705CClassesRow.holds Ybaf.pinned (OpenSpec.ofChange lawS2705CClassesWrong)

/-- 'scenario.LawS2705CCuts': WHATEVER THE INPUT: true; the input reads as it did. -/
def lawS2705CCutsSpec : ChangeSpec := { name := "lawS2705CCuts", fn := fun _ => fun
  | [d1, d2] => { results := [.lit (.bool true)], args := [d1, d2] }
  | _ => none }
def lawS2705CCutsRow : OpenClaim := { program := "ybulkbczofmt", sum := "a739f3d15fd7aca871065b37944489db5663317305e336840f0ae8d6a9109d6d", func := "example.com/quorate/quorate/scenario.LawS2705CCuts", spec := "lawS2705CCuts", stops := ["fmt.Sprintf"], inPlace := ["fmt.Sprintf"], unfollowed := true, recurses := true, plainKeys := false, apart := false }
/-- NO THEOREM (fmt's text is open here; it may be false): for the released tool's asking of the row's closed facts alone. THE STATEMENT IS 'LawS2705CCutsToldSaid' (YbulkbczoFmtCards.lean). -/
def LawS2705CCutsFormAsk : Prop := lawS2705CCutsRow.holds Ybaf.pinned (OpenSpec.ofChange lawS2705CCutsSpec)

/-- ITS FALSE NEIGHBOUR: 'it returns false'. Refute it at one input. -/
def lawS2705CCutsWrong : ChangeSpec := { name := "lawS2705CCuts", fn := fun _ => fun
  | [d1, d2] => { results := [.lit (.bool false)], args := [d1, d2] }
  | _ => none }
def LawS2705CCutsWrongFormAsk : Prop := lawS2705CCutsRow.holds Ybaf.pinned (OpenSpec.ofChange lawS2705CCutsWrong)

end Rows
end Go.Proofs.YbulkbczoFmt
