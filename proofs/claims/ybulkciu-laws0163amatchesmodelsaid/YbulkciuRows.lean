/-
  No cell of these rows narrows 'for every input' (looked for: loops, veiled, ifaces, maps, wideKeys, modest, calm, conditions, laid).
  DERIVED. THE GIVEN ROWS OF THIS SEAT. 1 by the template 'for every input the law returns true; each argument reads behind the call as it read before'; 0 by the template 'total and deterministic' (their statements: YbulkciuTotals.lean).
  GIVEN WITH THE SEED: the statements are not yours to turn. If you find one false, say at which input.
  Laid BY PROGRAM, IN A SANDBOX (cutbox-rows.mjs): the forced cells as the released guide's own fill.sh prints them over the translation 02cd595f1c5d9f74… (all of the seat's roots in one cut). By AI agents, Wed Nov 11 2026. No macro, syntax, notation, axiom, sorry.
-/
import Derived.Test.YbulkciuChecked
import GoSem.Claim
import GoSem.ClaimJoined
import GoSem.ClaimMapViews
import Derived.JoinedTies
import Derived.KernelRfl
namespace Go.Proofs.Ybulkciu
/- THE CELL 'sum', in the pinned program and in every row, IS THE sha256 OF THE DUMP (.gsa) THAT YbulkciuProg.lean LOADS. Nothing in Lean hashes anything: it is a label: what it is worth is what the hold of that sum in a sandbox is worth. -/
noncomputable def Yba.pinned : Pinned := { name := "ybulkciu", sum := "02cd595f1c5d9f745d0869588ec8762441aaf8278450d52b94c7120609423a24", checked := Yba.checked }
namespace Rows
def none {H : Type} : Left H := { results := [], args := [] }

/-- 'guarantees.LawS0163AMatchesModel': WHATEVER THE INPUT: true; the input reads as it did. -/
def lawS0163AMatchesModelSpec : ChangeSpec := { name := "lawS0163AMatchesModel", fn := fun _ => fun
  | [d1, d2, d3] => { results := [.lit (.bool true)], args := [d1, d2, d3] }
  | _ => none }
def lawS0163AMatchesModelRow : OpenClaim := { program := "ybulkciu", sum := "02cd595f1c5d9f745d0869588ec8762441aaf8278450d52b94c7120609423a24", func := "example.com/counterpoint/counterpoint/guarantees.LawS0163AMatchesModel", spec := "lawS0163AMatchesModel", plainKeys := false, apart := false }
def LawS0163AMatchesModelSaid : Prop := lawS0163AMatchesModelRow.holds Yba.pinned (OpenSpec.ofChange lawS0163AMatchesModelSpec)

/-- ITS FALSE NEIGHBOUR: 'it returns false'. Refute it at one input. -/
def lawS0163AMatchesModelWrong : ChangeSpec := { name := "lawS0163AMatchesModel", fn := fun _ => fun
  | [d1, d2, d3] => { results := [.lit (.bool false)], args := [d1, d2, d3] }
  | _ => none }
def LawS0163AMatchesModelWrongFalsely : Prop := lawS0163AMatchesModelRow.holds Yba.pinned (OpenSpec.ofChange lawS0163AMatchesModelWrong)

end Rows
end Go.Proofs.Ybulkciu
