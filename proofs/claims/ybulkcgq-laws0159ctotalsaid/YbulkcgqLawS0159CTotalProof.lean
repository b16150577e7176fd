/-  Filled from the seat's shell: the walk is this seat's own. -/
import Derived.Test.YbulkcgqRows
import Derived.Test.YbulkcgqTotalPlain
import Derived.WalkKit
import Derived.ProofKit
import Derived.OpenShut
import Derived.ShutString
namespace Go.Proofs.Ybulkcgq.lawS0159CTotal
open Go.ChangeShapes Go.WideShapes Go.ChangeAt Go.RowKit
open Go.ChangeMaps (open_string shut_string)
set_option linter.unusedVariables false      -- a walk need not use every 'w<i>' (that an integer argument fits its kind)

theorem own : ownKnob Yba.prog.godebug = none := by kernel_rfl

/-! ### STEP 1: THE WALK: the Go text returns true. 'Grown w w'': the world has at most new blocks (Derived/RowKit3.lean). Part the cases AHEAD of 'go_enter' where a test parts the walk; take each callee by a contract of your own. -/
theorem walk (a0 : Int) (a1 : Int) (w0 : (Lit.int .i64 a0).wf = true) (w1 : (Lit.int .i64 a1).wf = true) (w : World) :
    Calls Yba.prog 4 #[.int .i64 a0, .int .i64 a1] w fun e w' => e = .returned (.bool true) ∧ Grown w w' := by
  obtain ⟨g0, g0'⟩ := bounds_i64 w0
  obtain ⟨g1, g1'⟩ := bounds_i64 w1
  have i0 : I64 a0 := ⟨by omega, by omega⟩
  have i1 : I64 a1 := ⟨by omega, by omega⟩
  have k1 := add7 w.heap.size 0 0 a0 (w.alloc (.cells #[.int .i64 0, .int .u64 0] 31)) (by simp) (by simp) (by simp) (by simp) (by omega)
  have c0 := added_hi (w := w.alloc (.cells #[.int .i64 0, .int .u64 0] 31)) (b := w.heap.size) (u := .int .i64 0) (nhi 0 0 a0) (nlo 0 a0) (by simp)
  have c1 := added_lo (w := w.alloc (.cells #[.int .i64 0, .int .u64 0] 31)) (b := w.heap.size) (u := .int .u64 0) (nhi 0 0 a0) (nlo 0 a0) (by simp)
  have f0 : (added (w.alloc (.cells #[.int .i64 0, .int .u64 0] 31)) w.heap.size (nhi 0 0 a0) (nlo 0 a0)).frozen? ⟨w.heap.size, 0, none⟩ = false := by rw [added_frozen]; simp
  have f1 : (added (w.alloc (.cells #[.int .i64 0, .int .u64 0] 31)) w.heap.size (nhi 0 0 a0) (nlo 0 a0)).frozen? ⟨w.heap.size, 1, none⟩ = false := by rw [added_frozen]; simp
  have q1 : Grown w (added (w.alloc (.cells #[.int .i64 0, .int .u64 0] 31)) w.heap.size (nhi 0 0 a0) (nlo 0 a0)) :=
    (((Grown.refl w).alloc _ _).setCell (Nat.le_refl _) _).setCell (Nat.le_refl _) _
  generalize added (w.alloc (.cells #[.int .i64 0, .int .u64 0] 31)) w.heap.size (nhi 0 0 a0) (nlo 0 a0) = W1 at *
  have k2 := add7 w.heap.size _ _ a1 W1 c0 c1 f0 f1 (nlo_u64 _ _).1
  have d0 := added_hi (nhi (nhi 0 0 a0) (nlo 0 a0) a1) (nlo (nlo 0 a0) a1) c0
  have d1 := added_lo (nhi (nhi 0 0 a0) (nlo 0 a0) a1) (nlo (nlo 0 a0) a1) c1
  have q2 : Grown w (added W1 w.heap.size (nhi (nhi 0 0 a0) (nlo 0 a0) a1) (nlo (nlo 0 a0) a1)) := (q1.setCell (Nat.le_refl _) _).setCell (Nat.le_refl _) _
  generalize added W1 w.heap.size (nhi (nhi 0 0 a0) (nlo 0 a0) a1) (nlo (nlo 0 a0) a1) = W2 at *
  obtain ⟨t1, t2, t3, t4, t5⟩ := two a0 a1 i0 i1
  generalize nhi (nhi 0 0 a0) (nlo 0 a0) a1 = H at *
  generalize nlo (nlo 0 a0) a1 = L at *
  have hz : w.heap.size < W2.heap.size := World.block_lt_of_cell? _ _ d0
  clear c0 c1 f0 f1 q1 w0 w1
  by_cases hpos : 0 ≤ wrap64 (a0 + a1)
  · exact core_pos a0 a1 (wrap64 (a0 + a1)) H L w W1 W2 k1 k2 d0 d1 hz q2 rfl t1 (min_of _ hpos) (sh_of _ hpos) (pos_of a0 a1 H L i0 i1 t2 t5 hpos)
  · exact core_neg a0 a1 (wrap64 (a0 + a1)) H L w W1 W2 k1 k2 d0 d1 hz q2 rfl t1 (sh_of' _ hpos) (neg_of a0 a1 H L i0 i1 t3 t4 hpos)

/-! ### THE ROW's STEP: WRITTEN OUT: LEAVE IT -/
set_option maxRecDepth 100000 in
theorem lifted (os : Os) (started : os.Started) (H : Type) (enc : TypeId × Value → H) :
    ReturnsInHanded {} Yba.checked os 4 .any (Rows.lawS0159CTotalSpec.pre6 enc Yba.prog Yba.f4 Rows.lawS0159CTotalRow.domain false) (Rows.lawS0159CTotalSpec.post enc Yba.prog Yba.f4 false true false false) := by
  refine returnsInHanded_of_change (C := Yba.checked) own started (by kernel_rfl) Yba.func4
    (ChangeSpec.witness6 (enc := enc) (C := Yba.checked) false ⟨#[], #[.int .i64 0, .int .i64 0], []⟩ 8 (by kernel_rfl) (by kernel_rfl) (by kernel_rfl) (by kernel_rfl)) ?_
  intro W base args ds gs before hval0 hW hcnd _
  have hval : ∀ (j : Nat) t v, Yba.f4.params[j]? = some t → args[j]? = some v → Value.okWide Yba.prog W .any base t v := hval0
  have hW' := hW
  obtain ⟨p, q, hA0, hV, rfl, hfz, hnd⟩ := hW
  have hA : DataW.TrodAll enc Yba.prog W 0 (fun _ => true) true Yba.f4.params.toList args.toList ds p := hA0
  rw [Yba.params4] at hA hval
  obtain ⟨v0, vs0, d0, ds0, p0, q0, hargs, rfl, rfl, h0, r0⟩ := trodAll_cons hA
  obtain ⟨v1, vs1, d1, ds1, p1, q1, rfl, rfl, rfl, h1, r1⟩ := trodAll_cons r0
  obtain ⟨rfl, rfl, rfl⟩ := trodAll_nil r1
  obtain rfl : args = #[v0, v1] := by cases args; simp_all
  obtain ⟨rfl, rfl⟩ := trodVars_none hV
  obtain ⟨a0, rfl, rfl, rfl, w0⟩ := open_int Yba.underlying2 (hval 0 2 v0 rfl rfl) h0
  obtain ⟨a1, rfl, rfl, rfl, w1⟩ := open_int Yba.underlying2 (hval 1 2 v1 rfl rfl) h1
  clear hA0 hval0
  simp only [List.append_nil] at hW'
  refine (walk a0 a1 w0 w1 W).mono fun e W' ⟨he, hg⟩ => ?_
  subst he
  exact ⟨_, rfl, post_of_same (pa := []) (pv := []) hW' (fun _ _ _ => (trodAll_cons_mk (shut_bool Yba.underlying4 _) trodAll_mk0)) (fun sp _ => (trodAll_cons_mk (shut_int Yba.underlying2 w0) (trodAll_cons_mk (shut_int Yba.underlying2 w1) trodAll_mk0))) (fun _ _ => rfl) rfl
    (hg.frame _) hg.2.1 (ok_one (by kernel_rfl) rfl (okWide_bool_mk Yba.underlying4 _))⟩

theorem over : Rows.lawS0159CTotalRow.holds Yba.pinned (OpenSpec.ofChange Rows.lawS0159CTotalSpec) :=
  OpenClaim.holds_of_wide 4 Yba.f4 rfl rfl rfl rfl rfl rfl rfl ⟨rfl, rfl, rfl, rfl, rfl⟩ rfl rfl rfl rfl rfl (by kernel_rfl) Yba.func4 (by kernel_rfl)
    (of_decide_eq_true (by kernel_rfl)) (by unfold Func.isWrapper; first | (rw [if_pos (by decide +kernel)]; kernel_rfl) | (rw [if_neg (by decide +kernel)]; exact ⟨rfl, rfl⟩))
    (fun os started H enc _ => lifted os started H enc)

/-- ████ THE STATEMENT ████ -/
theorem proved : Rows.LawS0159CTotalSaid :=
  over
end Go.Proofs.Ybulkcgq.lawS0159CTotal
