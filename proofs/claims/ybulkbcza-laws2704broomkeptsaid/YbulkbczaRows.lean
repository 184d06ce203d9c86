/-
  No cell of these rows narrows 'for every input' (looked for: loops, veiled, ifaces, maps, wideKeys, modest, calm, conditions, laid).
  DERIVED. THE GIVEN ROWS OF THIS SEAT. 1 by the template 'for every input the law returns true; each argument reads behind the call as it read before'; 0 by the template 'total and deterministic' (their statements: YbulkbczaTotals.lean).
  GIVEN WITH THE SEED: the statements are not yours to turn. If you find one false, say at which input.
  Laid BY PROGRAM, IN A SANDBOX (cutbox-rows.mjs): the forced cells as the released guide's own fill.sh prints them over the translation 8e7559c455404906… (all of the seat's roots in one cut). By AI agents, Wed Nov 11 2026. No macro, syntax, notation, axiom, sorry.
-/
import Derived.Test.YbulkbczaChecked
import GoSem.Claim
import GoSem.ClaimJoined
import GoSem.ClaimMapViews
import Derived.JoinedTies
import Derived.KernelRfl
namespace Go.Proofs.Ybulkbcza
/- THE CELL 'sum', in the pinned program and in every row, IS THE sha256 OF THE DUMP (.gsa) THAT YbulkbczaProg.lean LOADS. Nothing in Lean hashes anything: it is a label: what it is worth is what the hold of that sum in a sandbox is worth. -/
noncomputable def Yba.pinned : Pinned := { name := "ybulkbcza", sum := "8e7559c45540490691b56e6d26e0aaa0fe6df15e8ba2273f7b8692641528dac6", checked := Yba.checked }
namespace Rows
def none {H : Type} : Left H := { results := [], args := [] }

/-- 'client.LawS2704BRoomKept': WHATEVER THE INPUT: true; the input reads as it did. -/
def lawS2704BRoomKeptSpec : ChangeSpec := { name := "lawS2704BRoomKept", fn := fun _ => fun
  | [d1, d2, d3, d4] => { results := [.lit (.bool true)], args := [d1, d2, d3, d4] }
  | _ => none }
def lawS2704BRoomKeptRow : OpenClaim := { program := "ybulkbcza", sum := "8e7559c45540490691b56e6d26e0aaa0fe6df15e8ba2273f7b8692641528dac6", func := "example.com/riverwire/riverwire/client.LawS2704BRoomKept", spec := "lawS2704BRoomKept", plainKeys := false, apart := false }
def LawS2704BRoomKeptSaid : Prop := lawS2704BRoomKeptRow.holds Yba.pinned (OpenSpec.ofChange lawS2704BRoomKeptSpec)

/-- ITS FALSE NEIGHBOUR: 'it returns false'. Refute it at one input. -/
def lawS2704BRoomKeptWrong : ChangeSpec := { name := "lawS2704BRoomKept", fn := fun _ => fun
  | [d1, d2, d3, d4] => { results := [.lit (.bool false)], args := [d1, d2, d3, d4] }
  | _ => none }
def LawS2704BRoomKeptWrongFalsely : Prop := lawS2704BRoomKeptRow.holds Yba.pinned (OpenSpec.ofChange lawS2704BRoomKeptWrong)

end Rows
end Go.Proofs.Ybulkbcza
