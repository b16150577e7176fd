/-
  No cell of these rows narrows 'for every input' (looked for: loops, veiled, ifaces, maps, wideKeys, modest, calm, conditions, laid).
  DERIVED. THE GIVEN ROWS OF THIS SEAT. 2 by the template 'for every input the law returns true; each argument reads behind the call as it read before'; 0 by the template 'total and deterministic' (their statements: YbulkcgqTotals.lean).
  GIVEN WITH THE SEED: the statements are not yours to turn. If you find one false, say at which input.
  Laid BY PROGRAM, IN A SANDBOX (cutbox-rows.mjs): the forced cells as the released guide's own fill.sh prints them over the translation 1697c5910b80639e… (all of the seat's roots in one cut). By AI agents, Wed Nov 11 2026. No macro, syntax, notation, axiom, sorry.
-/
import Derived.Test.YbulkcgqChecked
import GoSem.Claim
import GoSem.ClaimJoined
import GoSem.ClaimMapViews
import Derived.JoinedTies
import Derived.KernelRfl
namespace Go.Proofs.Ybulkcgq
/- THE CELL 'sum', in the pinned program and in every row, IS THE sha256 OF THE DUMP (.gsa) THAT YbulkcgqProg.lean LOADS. Nothing in Lean hashes anything: it is a label: what it is worth is what the hold of that sum in a sandbox is worth. -/
noncomputable def Yba.pinned : Pinned := { name := "ybulkcgq", sum := "1697c5910b80639ec14fb8cd51321eb763079f84890d7600b952bd6c79aa2dbf", checked := Yba.checked }
namespace Rows
def none {H : Type} : Left H := { results := [], args := [] }

/-- 'decimal.LawS0159CModel': WHATEVER THE INPUT: true; the input reads as it did. -/
def lawS0159CModelSpec : ChangeSpec := { name := "lawS0159CModel", fn := fun _ => fun
  | [d1, d2, d3] => { results := [.lit (.bool true)], args := [d1, d2, d3] }
  | _ => none }
def lawS0159CModelRow : OpenClaim := { program := "ybulkcgq", sum := "1697c5910b80639ec14fb8cd51321eb763079f84890d7600b952bd6c79aa2dbf", func := "example.com/costwright/costwright/decimal.LawS0159CModel", spec := "lawS0159CModel", inPlace := ["math/bits.Add64"], apart := false }
def LawS0159CModelSaid : Prop := lawS0159CModelRow.holds Yba.pinned (OpenSpec.ofChange lawS0159CModelSpec)

/-- ITS FALSE NEIGHBOUR: 'it returns false'. Refute it at one input. -/
def lawS0159CModelWrong : ChangeSpec := { name := "lawS0159CModel", fn := fun _ => fun
  | [d1, d2, d3] => { results := [.lit (.bool false)], args := [d1, d2, d3] }
  | _ => none }
def LawS0159CModelWrongFalsely : Prop := lawS0159CModelRow.holds Yba.pinned (OpenSpec.ofChange lawS0159CModelWrong)

/-- 'decimal.LawS0159CTotal': WHATEVER THE INPUT: true; the input reads as it did. -/
def lawS0159CTotalSpec : ChangeSpec := { name := "lawS0159CTotal", fn := fun _ => fun
  | [d1, d2] => { results := [.lit (.bool true)], args := [d1, d2] }
  | _ => none }
def lawS0159CTotalRow : OpenClaim := { program := "ybulkcgq", sum := "1697c5910b80639ec14fb8cd51321eb763079f84890d7600b952bd6c79aa2dbf", func := "example.com/costwright/costwright/decimal.LawS0159CTotal", spec := "lawS0159CTotal", inPlace := ["math/bits.Add64"], apart := false }
def LawS0159CTotalSaid : Prop := lawS0159CTotalRow.holds Yba.pinned (OpenSpec.ofChange lawS0159CTotalSpec)

/-- ITS FALSE NEIGHBOUR: 'it returns false'. Refute it at one input. -/
def lawS0159CTotalWrong : ChangeSpec := { name := "lawS0159CTotal", fn := fun _ => fun
  | [d1, d2] => { results := [.lit (.bool false)], args := [d1, d2] }
  | _ => none }
def LawS0159CTotalWrongFalsely : Prop := lawS0159CTotalRow.holds Yba.pinned (OpenSpec.ofChange lawS0159CTotalWrong)

end Rows
end Go.Proofs.Ybulkcgq
