/-  The row of LawS0163AMatchesModel: the frame after the seats' shells (no shell lay for this statement). -/
import Derived.Test.YbulkciuRows
import Derived.Test.YbulkciuWalk
import Derived.Test.YbulkciuEmpty
import Derived.Test.YbulkciuOpen
import Derived.WalkKit
import Derived.ProofKit
import Derived.OpenShut
import Derived.ShutString
import Derived.ChangeOld
import Derived.Below
namespace Go.Proofs.Ybulkciu.lawS0163AMatchesModel
open Go.ChangeShapes Go.WideShapes Go.ChangeAt Go.RowKit
open Go.ChangeMaps (open_string shut_string)
set_option linter.unusedVariables false

theorem own : ownKnob Yba.prog.godebug = none := by kernel_rfl

/-- What the walk is told of the slice that came in: it is nil; or each element's five cells are there. -/
def IsOps (w : World) (a : Option Addr) (len cap : Nat) : Prop :=
  (a = none ∧ len = 0 ∧ cap = 0) ∨ ∃ x, a = some x ∧ len ≤ cap ∧ ∀ i, i < len → ∃ q, OneOp w x i q

set_option maxRecDepth 100000 in
theorem walk (a0 : Option Addr) (len0 cap0 : Nat) (a1 a2 : Int) (w : World) (w0 : IsOps w a0 len0 cap0) (w1 : (Lit.int .u8 a1).wf = true) (w2 : (Lit.int .u8 a2).wf = true) :
    Calls Yba.prog 3 #[.slice a0 len0 cap0, .int .u8 a1, .int .u8 a2] w fun e w' => e = .returned (.bool true) ∧ Below w.heap.size w w' := by
  obtain ⟨g1, g1'⟩ := bounds_u8 w1
  obtain ⟨g2, g2'⟩ := bounds_u8 w2
  by_cases hbig : 1024 < (len0 : Int)
  · go_enter Yba.func3, Yba.ntmps3
    go_wp2
    go_ret
    exact ⟨rfl, Below.refl _ _⟩
  by_cases hemp : len0 = 0
  · subst hemp
    exact walk_empty a0 cap0 a1 a2 w g1 g1' g2 g2'
  · obtain ⟨x, rfl, hl, hx⟩ : ∃ x, a0 = some x ∧ len0 ≤ cap0 ∧ ∀ i, i < len0 → ∃ q, OneOp w x i q := by
      rcases w0 with ⟨_, h, _⟩ | h
      · exact absurd h hemp
      · exact h
    obtain ⟨b, off, rfl⟩ := plain_at hx (by omega)
    obtain ⟨q, hq⟩ := Go.Deep.choose_lt hx
    refine walk_row (fun j => if j < len0 then (q j).1 else 0) (fun j => if j < len0 then (q j).2.1 else 0) (fun j => if j < len0 then (q j).2.2.1 else 0) (fun j => (q j).2.2.2.1) (fun j => (q j).2.2.2.2)
      b off len0 cap0 a1 a2 w (by omega) g1 g1' g2 g2' (fun j hj => ?_) (fun j => ?_)
    · simp only [if_pos hj]
      exact arg_of (hq j hj)
    · by_cases hj : j < len0
      · simp only [if_pos hj]
        obtain ⟨_, _, _, _, _, x0, x1, x2⟩ := hq j hj
        exact ⟨bounds_u8 x0, bounds_u8 x1, bounds_u8 x2⟩
      · simp only [if_neg hj]
        omega

set_option maxRecDepth 100000 in
theorem lifted (os : Os) (started : os.Started) (H : Type) (enc : TypeId × Value → H) :
    ReturnsInHanded {} Yba.checked os 3 .any (Rows.lawS0163AMatchesModelSpec.pre6 enc Yba.prog Yba.f3 Rows.lawS0163AMatchesModelRow.domain false) (Rows.lawS0163AMatchesModelSpec.post enc Yba.prog Yba.f3 false true false false) := by
  refine returnsInHanded_of_change (C := Yba.checked) own started (by kernel_rfl) Yba.func3
    (ChangeSpec.witness6 (enc := enc) (C := Yba.checked) false ⟨#[], #[.slice none 0 0, .int .u8 0, .int .u8 0], []⟩ 8 (by kernel_rfl) (by kernel_rfl) (by kernel_rfl) (by kernel_rfl)) ?_
  intro W base args ds gs before hval0 hW hcnd _
  have hval : ∀ (j : Nat) t v, Yba.f3.params[j]? = some t → args[j]? = some v → Value.okWide Yba.prog W .any base t v := hval0
  have hW' := hW
  obtain ⟨p, q, hA0, hV, rfl, hfz, hnd⟩ := hW
  have hA : DataW.TrodAll enc Yba.prog W 0 (fun _ => true) true Yba.f3.params.toList args.toList ds p := hA0
  rw [Yba.params3] at hA hval
  obtain ⟨v0, vs0, d0, ds0, p0, q0, hargs, rfl, rfl, h0, r0⟩ := trodAll_cons hA
  obtain ⟨v1, vs1, d1, ds1, p1, q1, rfl, rfl, rfl, h1, r1⟩ := trodAll_cons r0
  obtain ⟨v2, vs2, d2, ds2, p2, q2, rfl, rfl, rfl, h2, r2⟩ := trodAll_cons r1
  obtain ⟨rfl, rfl, rfl⟩ := trodAll_nil r2
  obtain rfl : args = #[v0, v1, v2] := by cases args; simp_all
  obtain ⟨rfl, rfl⟩ := trodVars_none hV
  obtain ⟨a0, len0, cap0, rfl⟩ := okWide_slice Yba.underlying22 (hval 0 22 v0 rfl rfl)
  have k0 := h0
  have lt0 : ∀ x ∈ p0, x.block < W.heap.size := by obtain ⟨m, hm⟩ := k0; exact DataW.trod_lt m _ _ _ hm
  have w0 : IsOps W a0 len0 cap0 := by
    obtain ⟨fuel, hf⟩ := h0
    rcases open_ops hf with hcs | ⟨x, l, c, hcs, hl, hx⟩
    · simp [Value.cells] at hcs
      exact .inl hcs
    · simp [Value.cells] at hcs
      obtain ⟨rfl, rfl, rfl⟩ := hcs
      exact .inr ⟨_, rfl, hl, hx⟩
  obtain ⟨a1, rfl, rfl, rfl, w1⟩ := open_int Yba.underlying5 (hval 1 5 v1 rfl rfl) h1
  obtain ⟨a2, rfl, rfl, rfl, w2⟩ := open_int Yba.underlying5 (hval 2 5 v2 rfl rfl) h2
  clear hA0 hval0
  refine (walk a0 len0 cap0 a1 a2 W w0 w1 w2).mono fun e W' ⟨he, bel⟩ => ?_
  subst he
  exact ⟨_, rfl, _, _, _, [], _, [], hW', trodAll_mk1 (shut_bool Yba.underlying4 _), (trodAll_cons_mk (Below.trod laidOut (by kernel_rfl) (of_decide_eq_true (by kernel_rfl)) k0 bel lt0) (trodAll_cons_mk (shut_int Yba.underlying5 w1) (trodAll_cons_mk (shut_int Yba.underlying5 w2) trodAll_mk0))), rfl, bel.frame _, fun h => by cases h⟩

theorem over : Rows.lawS0163AMatchesModelRow.holds Yba.pinned (OpenSpec.ofChange Rows.lawS0163AMatchesModelSpec) :=
  OpenClaim.holds_of_wide 3 Yba.f3 rfl rfl rfl rfl rfl rfl rfl ⟨rfl, rfl, rfl, rfl, rfl⟩ rfl rfl rfl rfl rfl (by kernel_rfl) Yba.func3 (by kernel_rfl)
    (of_decide_eq_true (by kernel_rfl)) (by unfold Func.isWrapper; first | (rw [if_pos (by decide +kernel)]; kernel_rfl) | (rw [if_neg (by decide +kernel)]; exact ⟨rfl, rfl⟩))
    (fun os started H enc _ => lifted os started H enc)

theorem proved : Rows.LawS0163AMatchesModelSaid := over
end Go.Proofs.Ybulkciu.lawS0163AMatchesModel
