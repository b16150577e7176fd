/-  math/bits.Add64 at this dump; the contracts of Sum.Add at its two instances. -/
import Derived.Test.YbulkcgqRows
import Derived.Test.YbulkcgqPlain
import Derived.WalkKit
import Derived.WalkSpells
import Derived.Laws.Externs
import Derived.Below
namespace Go.Proofs.Ybulkcgq
open Go.RowKit

theorem add64_0 (x y : Int) (hx : 0 ≤ x) (hy : 0 ≤ y) (w : World) : (callFunc 10 #[.int .u64 x, .int .u64 y, .int .u64 0]).run Yba.prog w =
    .ok (.value (.tuple #[.int .u64 (sm x y), .int .u64 (cy x y)])) w := by
  rw [run_callFunc_extern Yba.func10 (by kernel_rfl) (by kernel_rfl) (by kernel_rfl) (e := add64Entry) (by kernel_rfl), run_add64 x y 0 hx hy (by omega) (by omega)]
  simp only [Result.andThen]
  simp [sm, cy]

theorem wrap_pos (v : Int) : 0 ≤ IntKind.u64.wrap v := by rw [IntKind.wrap_u64]; omega

/-- What Add leaves of the world: the two words of the struct at block b. -/
def added (w : World) (b : Nat) (hi lo : Int) : World := (w.setCell ⟨b, 1, none⟩ (.int .u64 lo)).setCell ⟨b, 0, none⟩ (.int .i64 hi)

set_option maxHeartbeats 400000 in
theorem add7 (b : Nat) (hi lo v : Int) (w : World) (h0 : w.cell? ⟨b, 0, none⟩ = some (.int .i64 hi)) (h1 : w.cell? ⟨b, 1, none⟩ = some (.int .u64 lo))
    (f0 : w.frozen? ⟨b, 0, none⟩ = false) (f1 : w.frozen? ⟨b, 1, none⟩ = false) (hlo : 0 ≤ lo) :
    Calls Yba.prog 7 #[.pointer (some ⟨b, 0, none⟩), .int .i64 v] w fun e w' => e = .returned (.tuple #[]) ∧ w' = added w b (nhi hi lo v) (nlo lo v) := by
  have hv := wrap_pos v
  go_enter Yba.func7, Yba.ntmps7
  go_wp2_with (simp only [add64_0 lo (IntKind.u64.wrap v) hlo hv])
  go_end0
  exact ⟨rfl, rfl⟩

set_option maxHeartbeats 400000 in
theorem add5 (b : Nat) (hi lo v : Int) (w : World) (h0 : w.cell? ⟨b, 0, none⟩ = some (.int .i64 hi)) (h1 : w.cell? ⟨b, 1, none⟩ = some (.int .u64 lo))
    (f0 : w.frozen? ⟨b, 0, none⟩ = false) (f1 : w.frozen? ⟨b, 1, none⟩ = false) (hlo : 0 ≤ lo) :
    Calls Yba.prog 5 #[.pointer (some ⟨b, 0, none⟩), .int .i64 v] w fun e w' => e = .returned (.tuple #[]) ∧ w' = added w b (nhi hi lo v) (nlo lo v) := by
  have hv := wrap_pos v
  go_enter Yba.func5, Yba.ntmps5
  go_wp2_with (simp only [add64_0 lo (IntKind.u64.wrap v) hlo hv])
  go_end0
  exact ⟨rfl, rfl⟩
end Go.Proofs.Ybulkcgq
