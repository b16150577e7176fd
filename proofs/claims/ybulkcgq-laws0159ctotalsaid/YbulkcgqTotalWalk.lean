/-  The walk of LawS0159CTotal: two Adds from zero, then Total and Sign; one walk a case of the signs. -/
import Derived.Test.YbulkcgqModel
namespace Go.Proofs.Ybulkcgq.lawS0159CTotal
open Go.RowKit Go.Proofs.Ybulkcgq

/-- What the two words and the wrapped sum are, sign by sign: at or above zero; below. -/
def Pos (a b c H L : Int) : Prop :=
  (0 ≤ a ∧ 0 ≤ b ∧ c = 0 ∧ H = 0 ∧ L = 0) ∨
  (0 ≤ a ∧ 0 ≤ b ∧ 0 < c ∧ H = 0 ∧ 0 < L) ∨
  (0 ≤ a ∧ b < 0 ∧ c = 0 ∧ H = 0 ∧ L = 0) ∨
  (0 ≤ a ∧ b < 0 ∧ 0 < c ∧ H = 0 ∧ 0 < L) ∨
  (a < 0 ∧ 0 ≤ b ∧ c = 0 ∧ H = 0 ∧ L = 0) ∨
  (a < 0 ∧ 0 ≤ b ∧ 0 < c ∧ H = 0 ∧ 0 < L) ∨
  (a < 0 ∧ b < 0 ∧ 0 ≤ c ∧ H = -1)
def Neg (a b c H L : Int) : Prop :=
  (0 ≤ a ∧ 0 ≤ b ∧ c < 0 ∧ H = 0 ∧ 0 < L) ∨
  (0 ≤ a ∧ b < 0 ∧ c < 0 ∧ H = -1) ∨
  (a < 0 ∧ 0 ≤ b ∧ c < 0 ∧ H = -1) ∨
  (a < 0 ∧ b < 0 ∧ c < 0 ∧ H = -1)

theorem ne_of_eqb {c : Int} (h : (c == -9223372036854775808) = false) : (c != -9223372036854775808) = true := by simp [bne, h]
theorem eqb_cases (c : Int) : ((c == -9223372036854775808) = false ∧ (c != -9223372036854775808) = true) ∨ ((c == -9223372036854775808) = true ∧ (c != -9223372036854775808) = false) := by
  cases h : (c == -9223372036854775808) <;> simp [bne, h]

set_option maxHeartbeats 3200000 in
theorem core_pos (a b c H L : Int) (w W1 W2 : World)
    (K1 : Hid (Calls Yba.prog 7 #[.pointer (some ⟨w.heap.size, 0, none⟩), .int .i64 a] (w.alloc (.cells #[.int .i64 0, .int .u64 0] 31)) fun e w' => e = .returned (.tuple #[]) ∧ w' = W1))
    (K2 : Hid (Calls Yba.prog 7 #[.pointer (some ⟨w.heap.size, 0, none⟩), .int .i64 b] W1 fun e w' => e = .returned (.tuple #[]) ∧ w' = W2))
    (c0 : W2.cell? ⟨w.heap.size, 0, none⟩ = some (.int .i64 H)) (c1 : W2.cell? ⟨w.heap.size, 1, none⟩ = some (.int .u64 L)) (hz : w.heap.size < W2.heap.size) (hg : Grown w W2)
    (hc : wrap64 (a + b) = c) (hv : wrap64 L = c) (hm : (c == -9223372036854775808) = false) (hs : c / 9223372036854775808 = 0) (hp : Pos a b c H L) :
    Calls Yba.prog 4 #[.int .i64 a, .int .i64 b] w fun e w' => e = .returned (.bool true) ∧ Grown w w' := by
  rcases hp with ⟨ha, hb, rfl, rfl, rfl⟩ | ⟨ha, hb, hn, rfl, hl⟩ | ⟨ha, hb, rfl, rfl, rfl⟩ | ⟨ha, hb, hn, rfl, hl⟩ | ⟨ha, hb, rfl, rfl, rfl⟩ | ⟨ha, hb, hn, rfl, hl⟩ | ⟨ha, hb, hn, rfl⟩
  all_goals
    have HG : Hid (Grown w W2) := hg
    have hm' := ne_of_eqb hm
    clear hg
    go_enter Yba.func4, Yba.ntmps4
    go_wp2_with fail
    refine Calls.mono K1.out ?_
    rintro e w1 ⟨rfl, rfl⟩
    go_wp2_with fail
    refine Calls.mono K2.out ?_
    rintro e w2 ⟨rfl, rfl⟩
    go_wp2
    go_ret
    exact ⟨rfl, (HG.out.alloc _ _).alloc _ _⟩

set_option maxHeartbeats 3200000 in
theorem core_neg (a b c H L : Int) (w W1 W2 : World)
    (K1 : Hid (Calls Yba.prog 7 #[.pointer (some ⟨w.heap.size, 0, none⟩), .int .i64 a] (w.alloc (.cells #[.int .i64 0, .int .u64 0] 31)) fun e w' => e = .returned (.tuple #[]) ∧ w' = W1))
    (K2 : Hid (Calls Yba.prog 7 #[.pointer (some ⟨w.heap.size, 0, none⟩), .int .i64 b] W1 fun e w' => e = .returned (.tuple #[]) ∧ w' = W2))
    (c0 : W2.cell? ⟨w.heap.size, 0, none⟩ = some (.int .i64 H)) (c1 : W2.cell? ⟨w.heap.size, 1, none⟩ = some (.int .u64 L)) (hz : w.heap.size < W2.heap.size) (hg : Grown w W2)
    (hc : wrap64 (a + b) = c) (hv : wrap64 L = c) (hs : c / 9223372036854775808 = -1) (hp : Neg a b c H L) :
    Calls Yba.prog 4 #[.int .i64 a, .int .i64 b] w fun e w' => e = .returned (.bool true) ∧ Grown w w' := by
  rcases hp with ⟨ha, hb, hn, rfl, hl⟩ | ⟨ha, hb, hn, rfl⟩ | ⟨ha, hb, hn, rfl⟩ | ⟨ha, hb, hn, rfl⟩
  all_goals
    have HG : Hid (Grown w W2) := hg
    clear hg
    rcases eqb_cases c with ⟨hm, hm'⟩ | ⟨hm, hm'⟩
    all_goals
      go_enter Yba.func4, Yba.ntmps4
      go_wp2_with fail
      refine Calls.mono K1.out ?_
      rintro e w1 ⟨rfl, rfl⟩
      go_wp2_with fail
      refine Calls.mono K2.out ?_
      rintro e w2 ⟨rfl, rfl⟩
      go_wp2
      go_ret
      exact ⟨rfl, (HG.out.alloc _ _).alloc _ _⟩
end Go.Proofs.Ybulkcgq.lawS0159CTotal
