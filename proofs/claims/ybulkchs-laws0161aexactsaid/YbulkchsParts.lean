/-  The table of three protocols, and the pick out of it. -/
import Derived.Test.YbulkchsRows
import Derived.WalkKit
import Derived.WalkSpells
import Derived.Below
namespace Go.Proofs.Ybulkchs
open Go.RowKit
set_option linter.unusedVariables false

/-- What the pick answers: nil at 3, else a pointer to the protocol's block. -/
def pp (N : Nat) (x : Int) : Option Addr := if x % 4 = 3 then none else some ⟨N + (x % 4).toNat, 0, none⟩

/-- The table lies at block N + 3 and points to the blocks N, N + 1, N + 2. -/
structure Tab (N : Nat) (w : World) : Prop where
  t0 : w.cell? ⟨N + 3, 0, none⟩ = some (.pointer (some ⟨N, 0, none⟩))
  t1 : w.cell? ⟨N + 3, 1, none⟩ = some (.pointer (some ⟨N + 1, 0, none⟩))
  t2 : w.cell? ⟨N + 3, 2, none⟩ = some (.pointer (some ⟨N + 2, 0, none⟩))
  g : ∀ i, i < 3 → ∃ c t, w.heap[N + i]? = some (.cells c t (0, 0))

theorem Tab.below {N B : Nat} {w w' : World} (h : Tab N w) (hb : Below B w w') (hB : N + 3 < B) : Tab N w' :=
  ⟨(hb.cell hB).trans h.t0, (hb.cell hB).trans h.t1, (hb.cell hB).trans h.t2, fun i hi => by
    obtain ⟨c, t, e⟩ := h.g i hi
    exact ⟨c, t, (hb.block _ (by omega)).trans e⟩⟩

theorem three_blocks (w : World) (c0 c1 c2 c3 : Array Value) (t0 t1 t2 t3 : TypeId) (i : Nat) (hi : i < 3) :
    ∃ c t, ((((w.alloc (.cells c0 t0)).alloc (.cells c1 t1)).alloc (.cells c2 t2)).alloc (.cells c3 t3)).heap[w.heap.size + i]? = some (.cells c t (0, 0)) := by
  have : i = 0 ∨ i = 1 ∨ i = 2 := by omega
  rcases this with rfl | rfl | rfl
  · exact ⟨c0, t0, by show ((((w.heap.push (.cells c0 t0)).push (.cells c1 t1)).push (.cells c2 t2)).push (.cells c3 t3))[_]? = _; simp only [Array.getElem?_push, Array.size_push]; repeat (first | rw [if_pos trivial] | rw [if_pos (by omega)] | rw [if_neg (by omega)])⟩
  · exact ⟨c1, t1, by show ((((w.heap.push (.cells c0 t0)).push (.cells c1 t1)).push (.cells c2 t2)).push (.cells c3 t3))[_]? = _; simp only [Array.getElem?_push, Array.size_push]; repeat (first | rw [if_pos trivial] | rw [if_pos (by omega)] | rw [if_neg (by omega)])⟩
  · exact ⟨c2, t2, by show ((((w.heap.push (.cells c0 t0)).push (.cells c1 t1)).push (.cells c2 t2)).push (.cells c3 t3))[_]? = _; simp only [Array.getElem?_push, Array.size_push]; repeat (first | rw [if_pos trivial] | rw [if_pos (by omega)] | rw [if_neg (by omega)])⟩

set_option maxHeartbeats 400000 in
theorem table_any (w : World) :
    Calls Yba.prog 5 #[] w fun e w' => e = .returned (.pointer (some ⟨w.heap.size + 3, 0, none⟩)) ∧ Tab w.heap.size w' ∧ w'.heap.size = w.heap.size + 4 ∧ Below w.heap.size w w' := by
  go_enter Yba.func5, Yba.ntmps5
  go_wp2
  go_ret
  refine ⟨rfl, ⟨?_, ?_, ?_, fun i hi => three_blocks _ _ _ _ _ _ _ _ _ i hi⟩, ?_, ?_⟩
  · simp [go_sem]
  · simp [go_sem]
  · simp [go_sem]
  · simp
  · exact ((((Below.refl _ _).alloc (Nat.le_refl _) _).alloc (by simp) _).alloc (by simp; omega) _).alloc (by simp; omega) _

theorem Tab.at {N : Nat} {w : World} (h : Tab N w) {x : Int} (h0 : 0 ≤ x) (h3 : ¬ x % 4 = 3) : w.cell? ⟨N + 3, (x % 4).toNat, none⟩ = some (.pointer (pp N x)) := by
  have : x % 4 = 0 ∨ x % 4 = 1 ∨ x % 4 = 2 := by omega
  rcases this with e | e | e <;> simp [pp, e]
  · exact h.t0
  · exact h.t1
  · exact h.t2

set_option maxHeartbeats 400000 in
theorem pick_any (N : Nat) (x : Int) (w : World) (h0 : 0 ≤ x) (h1 : x ≤ 255) (ht : Tab N w) :
    Calls Yba.prog 6 #[.pointer (some ⟨N + 3, 0, none⟩), .int .u8 x] w fun e w' => e = .returned (.pointer (pp N x)) ∧ w' = w := by
  by_cases h3 : x % 4 = 3
  · have hp : pp N x = none := by simp [pp, h3]
    rw [hp]
    have hb : (x % 4 == 3) = true := by simp [h3]
    clear h3 ht hp
    go_enter Yba.func6, Yba.ntmps6
    go_wp2
    go_ret
    exact ⟨rfl, rfl⟩
  · have hcell := ht.at h0 h3
    have hb : (x % 4 == 3) = false := by simpa using h3
    have h5 : 0 ≤ x % 4 := by omega
    have h6 : x % 4 < 3 := by omega
    generalize pp N x = p at *
    clear ht h3
    go_enter Yba.func6, Yba.ntmps6
    go_wp2
    go_ret
    exact ⟨rfl, rfl⟩

/-- Two picks are one pointer just where the two selectors are one modulo 4. -/
theorem pp_inj (N : Nat) (x y : Int) (hx : 0 ≤ x) (hy : 0 ≤ y) : (pp N x = pp N y) ↔ x % 4 = y % 4 := by
  unfold pp
  by_cases h : x % 4 = 3 <;> by_cases k : y % 4 = 3 <;> simp [h, k] <;> omega
end Go.Proofs.Ybulkchs
