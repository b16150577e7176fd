/-
  No cell of these rows narrows 'for every input' (looked for: loops, veiled, ifaces, maps, wideKeys, modest, calm, conditions, laid).
  DERIVED. THE GIVEN ROWS OF THIS SEAT. 2 by the template 'for every input the law returns true; each argument reads behind the call as it read before'; 0 by the template 'total and deterministic' (their statements: YbulkchsTotals.lean).
  GIVEN WITH THE SEED: the statements are not yours to turn. If you find one false, say at which input.
  Laid BY PROGRAM, IN A SANDBOX (cutbox-rows.mjs): the forced cells as the released guide's own fill.sh prints them over the translation f8df0fa96d423c72… (all of the seat's roots in one cut). By AI agents, Wed Nov 11 2026. No macro, syntax, notation, axiom, sorry.
-/
import Derived.Test.YbulkchsChecked
import GoSem.Claim
import GoSem.ClaimJoined
import GoSem.ClaimMapViews
import Derived.JoinedTies
import Derived.KernelRfl
namespace Go.Proofs.Ybulkchs
/- THE CELL 'sum', in the pinned program and in every row, IS THE sha256 OF THE DUMP (.gsa) THAT YbulkchsProg.lean LOADS. Nothing in Lean hashes anything: it is a label: what it is worth is what the hold of that sum in a sandbox is worth. -/
noncomputable def Yba.pinned : Pinned := { name := "ybulkchs", sum := "f8df0fa96d423c72abe6b1f914134008af78afaab2cbc3b572a90323cdf532f1", checked := Yba.checked }
namespace Rows
def none {H : Type} : Left H := { results := [], args := [] }

/-- 'filter.LawS0161AExact': WHATEVER THE INPUT: true; the input reads as it did. -/
def lawS0161AExactSpec : ChangeSpec := { name := "lawS0161AExact", fn := fun _ => fun
  | [d1, d2] => { results := [.lit (.bool true)], args := [d1, d2] }
  | _ => none }
def lawS0161AExactRow : OpenClaim := { program := "ybulkchs", sum := "f8df0fa96d423c72abe6b1f914134008af78afaab2cbc3b572a90323cdf532f1", func := "example.com/otterboard/otterboard/filter.LawS0161AExact", spec := "lawS0161AExact", plainKeys := false, apart := false }
def LawS0161AExactSaid : Prop := lawS0161AExactRow.holds Yba.pinned (OpenSpec.ofChange lawS0161AExactSpec)

/-- ITS FALSE NEIGHBOUR: 'it returns false'. Refute it at one input. -/
def lawS0161AExactWrong : ChangeSpec := { name := "lawS0161AExact", fn := fun _ => fun
  | [d1, d2] => { results := [.lit (.bool false)], args := [d1, d2] }
  | _ => none }
def LawS0161AExactWrongFalsely : Prop := lawS0161AExactRow.holds Yba.pinned (OpenSpec.ofChange lawS0161AExactWrong)

/-- 'filter.LawS0161AOrderFlags': WHATEVER THE INPUT: true; the input reads as it did. -/
def lawS0161AOrderFlagsSpec : ChangeSpec := { name := "lawS0161AOrderFlags", fn := fun _ => fun
  | [d1, d2, d3] => { results := [.lit (.bool true)], args := [d1, d2, d3] }
  | _ => none }
def lawS0161AOrderFlagsRow : OpenClaim := { program := "ybulkchs", sum := "f8df0fa96d423c72abe6b1f914134008af78afaab2cbc3b572a90323cdf532f1", func := "example.com/otterboard/otterboard/filter.LawS0161AOrderFlags", spec := "lawS0161AOrderFlags", plainKeys := false, apart := false }
def LawS0161AOrderFlagsSaid : Prop := lawS0161AOrderFlagsRow.holds Yba.pinned (OpenSpec.ofChange lawS0161AOrderFlagsSpec)

/-- ITS FALSE NEIGHBOUR: 'it returns false'. Refute it at one input. -/
def lawS0161AOrderFlagsWrong : ChangeSpec := { name := "lawS0161AOrderFlags", fn := fun _ => fun
  | [d1, d2, d3] => { results := [.lit (.bool false)], args := [d1, d2, d3] }
  | _ => none }
def LawS0161AOrderFlagsWrongFalsely : Prop := lawS0161AOrderFlagsRow.holds Yba.pinned (OpenSpec.ofChange lawS0161AOrderFlagsWrong)

end Rows
end Go.Proofs.Ybulkchs
