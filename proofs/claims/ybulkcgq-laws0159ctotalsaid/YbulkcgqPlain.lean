/-  The plain arithmetic of Sum.Add: a 128-bit two's complement number as two words. No Go in sight. -/
import Derived.RowKit
import Derived.Laws.Bits64
namespace Go.Proofs.Ybulkcgq
open Go.RowKit
set_option linter.unusedVariables false

/-- The low word and the carry of x + y. -/
def sm (x y : Int) : Int := (x + y) % 18446744073709551616
def cy (x y : Int) : Int := (x + y) / 18446744073709551616
/-- The two words behind 'Add(v)', as the program reckons them. -/
def nlo (lo v : Int) : Int := sm lo (IntKind.u64.wrap v)
def nhi (hi lo v : Int) : Int := wrap64 (hi + wrap64 (v / 9223372036854775808 + wrap64 (cy lo (IntKind.u64.wrap v))))

/-- An int64, a uint64. -/
def I64 (x : Int) : Prop := -9223372036854775808 ≤ x ∧ x < 9223372036854775808
def U64 (x : Int) : Prop := 0 ≤ x ∧ x < 18446744073709551616

theorem nlo_u64 (lo v : Int) : U64 (nlo lo v) := by unfold U64 nlo sm; omega
theorem nhi_i64 (hi lo v : Int) : I64 (nhi hi lo v) := by unfold I64 nhi wrap64; omega

/-- The model's low word. -/
theorem lo_model (lo v : Int) : IntKind.u64.wrap (lo + IntKind.u64.wrap v) = nlo lo v := by
  rw [IntKind.wrap_u64]; rfl
/-- The carry, told by 'the new low word is below the old one'. -/
theorem cy_lt (lo v : Int) (h : U64 lo) (hv : I64 v) (hlt : nlo lo v < lo) : (0 ≤ v → cy lo (IntKind.u64.wrap v) = 1) ∧ (v < 0 → cy lo (IntKind.u64.wrap v) = 1) := by
  unfold U64 at h; unfold I64 at hv; unfold nlo sm at hlt; unfold cy
  rw [IntKind.wrap_u64] at *
  omega
theorem cy_ge (lo v : Int) (h : U64 lo) (hv : I64 v) (hge : lo ≤ nlo lo v) : cy lo (IntKind.u64.wrap v) = 0 := by
  unfold U64 at h; unfold I64 at hv; unfold nlo sm at hge; unfold cy
  rw [IntKind.wrap_u64] at *
  omega
theorem sh_neg (v : Int) (hv : I64 v) (h : v < 0) : v / 9223372036854775808 = -1 := by unfold I64 at hv; omega
theorem sh_pos (v : Int) (hv : I64 v) (h : 0 ≤ v) : v / 9223372036854775808 = 0 := by unfold I64 at hv; omega

theorem hi_neg_lt (hi lo v : Int) (h : U64 lo) (hv : I64 v) (hn : v < 0) (hlt : nlo lo v < lo) : wrap64 (wrap64 (hi - 1) + 1) = nhi hi lo v := by
  unfold nhi; rw [(cy_lt lo v h hv hlt).2 hn, sh_neg v hv hn]; unfold wrap64; omega
theorem hi_neg_ge (hi lo v : Int) (h : U64 lo) (hv : I64 v) (hn : v < 0) (hge : lo ≤ nlo lo v) : wrap64 (hi - 1) = nhi hi lo v := by
  unfold nhi; rw [cy_ge lo v h hv hge, sh_neg v hv hn]; unfold wrap64; omega
theorem hi_pos_lt (hi lo v : Int) (h : U64 lo) (hv : I64 v) (hn : 0 ≤ v) (hlt : nlo lo v < lo) : wrap64 (hi + 1) = nhi hi lo v := by
  unfold nhi; rw [(cy_lt lo v h hv hlt).1 hn, sh_pos v hv hn]; unfold wrap64; omega
theorem hi_pos_ge (hi lo v : Int) (h : U64 lo) (hh : I64 hi) (hv : I64 v) (hn : 0 ≤ v) (hge : lo ≤ nlo lo v) : hi = nhi hi lo v := by
  unfold nhi; rw [cy_ge lo v h hv hge, sh_pos v hv hn]; unfold I64 at hh; unfold wrap64; omega

/-- The sum of a list, word by word, from a start. -/
def step (s : Int × Int) (v : Int) : Int × Int := (nhi s.1 s.2 v, nlo s.2 v)
def run (hi lo : Int) (vs : List Int) : Int × Int := vs.foldl step (hi, lo)
theorem run_snoc (hi lo : Int) (vs : List Int) (v : Int) : run hi lo (vs ++ [v]) = (nhi (run hi lo vs).1 (run hi lo vs).2 v, nlo (run hi lo vs).2 v) := by
  simp [run, step]
theorem run_ok (hi lo : Int) (h : I64 hi) (l : U64 lo) (vs : List Int) : I64 (run hi lo vs).1 ∧ U64 (run hi lo vs).2 := by
  unfold run
  suffices H : ∀ (vs : List Int) (s : Int × Int), I64 s.1 → U64 s.2 → I64 (vs.foldl step s).1 ∧ U64 (vs.foldl step s).2 from H vs (hi, lo) h l
  intro vs
  induction vs with
  | nil => intro s h l; exact ⟨h, l⟩
  | cons v vs ih => intro s _ _; exact ih _ (nhi_i64 _ _ _) (nlo_u64 _ _)

/-- What the two words hold behind Add(a), Add(b) from zero. -/
theorem two (a b : Int) (ha : I64 a) (hb : I64 b) :
    wrap64 (nlo (nlo 0 a) b) = wrap64 (a + b) ∧
    (I64 (a + b) → 0 ≤ a + b → nhi (nhi 0 0 a) (nlo 0 a) b = 0 ∧ nlo (nlo 0 a) b = a + b) ∧
    (I64 (a + b) → a + b < 0 → nhi (nhi 0 0 a) (nlo 0 a) b = -1) ∧
    (9223372036854775808 ≤ a + b → nhi (nhi 0 0 a) (nlo 0 a) b = 0 ∧ nlo (nlo 0 a) b = a + b) ∧
    (a + b < -9223372036854775808 → nhi (nhi 0 0 a) (nlo 0 a) b = -1) := by
  unfold I64 at *
  have e1 : nlo 0 a = a % 18446744073709551616 := by unfold nlo sm; rw [IntKind.wrap_u64]; omega
  have e2 : nhi 0 0 a = a / 9223372036854775808 := by unfold nhi cy wrap64; rw [IntKind.wrap_u64]; omega
  have e3 : nlo (nlo 0 a) b = (a + b) % 18446744073709551616 := by rw [e1]; unfold nlo sm; rw [IntKind.wrap_u64]; omega
  have e4 : cy (nlo 0 a) (IntKind.u64.wrap b) = (a % 18446744073709551616 + b % 18446744073709551616) / 18446744073709551616 := by rw [e1]; unfold cy; rw [IntKind.wrap_u64]
  have e5 : nhi (nhi 0 0 a) (nlo 0 a) b = a / 9223372036854775808 + b / 9223372036854775808 + (a % 18446744073709551616 + b % 18446744073709551616) / 18446744073709551616 := by
    unfold nhi at *; rw [e4, e2]; unfold wrap64; omega
  rw [e3, e5]
  refine ⟨by unfold wrap64; omega, ?_, ?_, ?_, ?_⟩ <;> omega
end Go.Proofs.Ybulkcgq
