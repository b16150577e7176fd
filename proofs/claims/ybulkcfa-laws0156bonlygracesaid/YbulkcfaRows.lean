/-
  No cell of these rows narrows 'for every input' (looked for: loops, veiled, ifaces, maps, wideKeys, modest, calm, conditions, laid).
  DERIVED. THE GIVEN ROWS OF THIS SEAT. 2 by the template 'for every input the law returns true; each argument reads behind the call as it read before'; 0 by the template 'total and deterministic' (their statements: YbulkcfaTotals.lean).
  GIVEN WITH THE SEED: the statements are not yours to turn. If you find one false, say at which input.
  Laid BY PROGRAM, IN A SANDBOX (cutbox-rows.mjs): the forced cells as the released guide's own fill.sh prints them over the translation 3ba1530cb23ca748… (all of the seat's roots in one cut). By AI agents, Wed Nov 11 2026. No macro, syntax, notation, axiom, sorry.
-/
import Derived.Test.YbulkcfaChecked
import GoSem.Claim
import GoSem.ClaimJoined
import GoSem.ClaimMapViews
import Derived.JoinedTies
import Derived.KernelRfl
namespace Go.Proofs.Ybulkcfa
/- THE CELL 'sum', in the pinned program and in every row, IS THE sha256 OF THE DUMP (.gsa) THAT YbulkcfaProg.lean LOADS. Nothing in Lean hashes anything: it is a label: what it is worth is what the hold of that sum in a sandbox is worth. -/
noncomputable def Yba.pinned : Pinned := { name := "ybulkcfa", sum := "3ba1530cb23ca7489a474c8c2c656766c7e6fc032ee2d9d43a0999dea62279bc", checked := Yba.checked }
namespace Rows
def none {H : Type} : Left H := { results := [], args := [] }

/-- 'suite.LawS0156BExact': WHATEVER THE INPUT: true; the input reads as it did. -/
def lawS0156BExactSpec : ChangeSpec := { name := "lawS0156BExact", fn := fun _ => fun
  | [d] => { results := [.lit (.bool true)], args := [d] }
  | _ => none }
def lawS0156BExactRow : OpenClaim := { program := "ybulkcfa", sum := "3ba1530cb23ca7489a474c8c2c656766c7e6fc032ee2d9d43a0999dea62279bc", func := "example.com/describe-for-go/describe-for-go/internal/suite.LawS0156BExact", spec := "lawS0156BExact", apart := false }
def LawS0156BExactSaid : Prop := lawS0156BExactRow.holds Yba.pinned (OpenSpec.ofChange lawS0156BExactSpec)

/-- ITS FALSE NEIGHBOUR: 'it returns false'. Refute it at one input. -/
def lawS0156BExactWrong : ChangeSpec := { name := "lawS0156BExact", fn := fun _ => fun
  | [d] => { results := [.lit (.bool false)], args := [d] }
  | _ => none }
def LawS0156BExactWrongFalsely : Prop := lawS0156BExactRow.holds Yba.pinned (OpenSpec.ofChange lawS0156BExactWrong)

/-- 'suite.LawS0156BOnlyGrace': WHATEVER THE INPUT: true; the input reads as it did. -/
def lawS0156BOnlyGraceSpec : ChangeSpec := { name := "lawS0156BOnlyGrace", fn := fun _ => fun
  | [d1, d2, d3] => { results := [.lit (.bool true)], args := [d1, d2, d3] }
  | _ => none }
def lawS0156BOnlyGraceRow : OpenClaim := { program := "ybulkcfa", sum := "3ba1530cb23ca7489a474c8c2c656766c7e6fc032ee2d9d43a0999dea62279bc", func := "example.com/describe-for-go/describe-for-go/internal/suite.LawS0156BOnlyGrace", spec := "lawS0156BOnlyGrace", apart := false }
def LawS0156BOnlyGraceSaid : Prop := lawS0156BOnlyGraceRow.holds Yba.pinned (OpenSpec.ofChange lawS0156BOnlyGraceSpec)

/-- ITS FALSE NEIGHBOUR: 'it returns false'. Refute it at one input. -/
def lawS0156BOnlyGraceWrong : ChangeSpec := { name := "lawS0156BOnlyGrace", fn := fun _ => fun
  | [d1, d2, d3] => { results := [.lit (.bool false)], args := [d1, d2, d3] }
  | _ => none }
def LawS0156BOnlyGraceWrongFalsely : Prop := lawS0156BOnlyGraceRow.holds Yba.pinned (OpenSpec.ofChange lawS0156BOnlyGraceWrong)

end Rows
end Go.Proofs.Ybulkcfa
