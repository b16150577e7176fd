/-  The plain law of LawS0159CTotal: the two words and the wrapped sum, sign by sign. -/
import Derived.Test.YbulkcgqTotalWalk
namespace Go.Proofs.Ybulkcgq.lawS0159CTotal
open Go.RowKit Go.Proofs.Ybulkcgq

theorem wrap_cases (s : Int) (h : -18446744073709551616 ≤ s) (h' : s < 18446744073709551616) :
    (I64 s ∧ wrap64 s = s) ∨ (9223372036854775808 ≤ s ∧ wrap64 s = s - 18446744073709551616) ∨ (s < -9223372036854775808 ∧ wrap64 s = s + 18446744073709551616) := by
  unfold I64 wrap64; omega

theorem sum_bound {a b : Int} (i0 : I64 a) (i1 : I64 b) : -18446744073709551616 ≤ a + b ∧ a + b < 18446744073709551616 := by
  unfold I64 at *; omega

theorem pos_of (a b H L : Int) (i0 : I64 a) (i1 : I64 b)
    (t2 : I64 (a + b) → 0 ≤ a + b → H = 0 ∧ L = a + b)
    (t5 : a + b < -9223372036854775808 → H = -1) (hpos : 0 ≤ wrap64 (a + b)) : Pos a b (wrap64 (a + b)) H L := by
  rcases wrap_cases (a + b) (sum_bound i0 i1).1 (sum_bound i0 i1).2 with ⟨hf, e⟩ | ⟨hf, e⟩ | ⟨hf, e⟩
  · rw [e] at hpos ⊢
    obtain ⟨rfl, rfl⟩ := t2 hf hpos
    unfold Pos
    omega
  · exfalso; rw [e] at hpos; have := (sum_bound i0 i1).2; omega
  · have hH := t5 hf
    subst hH
    rw [e] at hpos ⊢
    unfold I64 at i0 i1
    unfold Pos
    right; right; right; right; right; right
    exact ⟨by omega, by omega, hpos, rfl⟩

theorem neg_of (a b H L : Int) (i0 : I64 a) (i1 : I64 b)
    (t3 : I64 (a + b) → a + b < 0 → H = -1)
    (t4 : 9223372036854775808 ≤ a + b → H = 0 ∧ L = a + b) (hneg : ¬ 0 ≤ wrap64 (a + b)) : Neg a b (wrap64 (a + b)) H L := by
  rcases wrap_cases (a + b) (sum_bound i0 i1).1 (sum_bound i0 i1).2 with ⟨hf, e⟩ | ⟨hf, e⟩ | ⟨hf, e⟩
  · rw [e] at hneg ⊢
    have hH := t3 hf (by omega)
    subst hH
    unfold Neg
    omega
  · obtain ⟨rfl, rfl⟩ := t4 hf
    rw [e] at hneg ⊢
    unfold I64 at i0 i1
    unfold Neg
    left
    exact ⟨by omega, by omega, by omega, rfl, by omega⟩
  · exfalso; rw [e] at hneg; have := (sum_bound i0 i1).1; omega

theorem min_of (c : Int) (h : 0 ≤ c) : (c == -9223372036854775808) = false := by
  rw [beq_eq_false_iff_ne]; omega
theorem sh_of (s : Int) (h : 0 ≤ wrap64 s) : wrap64 s / 9223372036854775808 = 0 := by unfold wrap64 at *; omega
theorem sh_of' (s : Int) (h : ¬ 0 ≤ wrap64 s) : wrap64 s / 9223372036854775808 = -1 := by unfold wrap64 at *; omega
end Go.Proofs.Ybulkcgq.lawS0159CTotal
