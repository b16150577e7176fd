/-  The argument opened: a slice of five-field structs, each field one cell. -/
import Derived.Test.YbulkciuGot
import Derived.OpenShut
import Derived.Deep.Slices
namespace Go.Proofs.Ybulkciu
open Go.RowKit Go.Deep Go.ChangeShapes Go.WideShapes
set_option linter.unusedVariables false

theorem cells26 : Yba.prog.cellsOf 26 = 5 := by kernel_rfl
theorem cells5 : Yba.prog.cellsOf 5 = 1 := by kernel_rfl
theorem cells2 : Yba.prog.cellsOf 2 = 1 := by kernel_rfl
theorem cells4 : Yba.prog.cellsOf 4 = 1 := by kernel_rfl

/-- What an element's five cells hold. -/
def OneOp (w : World) (x : Addr) (i : Nat) (q : Int × Int × Int × Int × Bool) : Prop :=
  w.cell? (x.add (i * 5)) = some (.int .u8 q.1) ∧ w.cell? (x.add (i * 5 + 1)) = some (.int .u8 q.2.1) ∧ w.cell? (x.add (i * 5 + 2)) = some (.int .u8 q.2.2.1) ∧
  w.cell? (x.add (i * 5 + 3)) = some (.int .i64 q.2.2.2.1) ∧ w.cell? (x.add (i * 5 + 4)) = some (.bool q.2.2.2.2) ∧
  (Lit.int .u8 q.1).wf = true ∧ (Lit.int .u8 q.2.1).wf = true ∧ (Lit.int .u8 q.2.2.1).wf = true

theorem open_ops {H : Type} {enc : TypeId × Value → H} {w : World} {fuel : Nat} {cs : List Value} {x : DataW H × List MemPlace} (h : DataW.trod enc Yba.prog w 0 (fun _ => true) true fuel 22 cs = some x) :
    cs = [.slice none 0 0] ∨ ∃ (a : Addr) (len cap : Nat), cs = [.slice (some a) len cap] ∧ len ≤ cap ∧ ∀ i, i < len → ∃ q, OneOp w a i q := by
  rcases open_slice Yba.underlying22 h with ⟨h0, _⟩ | ⟨a, len, cap, m, n, D, Pl, rfl, hb, hl, hm, hmm, rfl, hx⟩
  · exact .inl h0
  refine .inr ⟨a, len, cap, rfl, hl, fun i hi => ?_⟩
  obtain ⟨cs', h1, h2⟩ := hx i (by rw [hmm]; simp; omega)
  rw [cells26] at h1
  obtain ⟨_, hlen, hcell⟩ := World.cells?_some h1
  obtain ⟨xs, k, hk, hxy, _, hxl, hf⟩ := DataW.trod_struct Yba.underlying26 h2
  match xs, hxl, cs', hlen with
  | [y0, y1, y2, y3, y4], _, [v0, v1, v2, v3, v4], _ =>
    have g0 := hf 0 _ rfl
    have g1 := hf 1 _ rfl
    have g2 := hf 2 _ rfl
    have g3 := hf 3 _ rfl
    have g4 := hf 4 _ rfl
    simp [cells5, cells2, cells4] at g0 g1 g2 g3 g4
    obtain ⟨a0, e0, _, w0⟩ := DataW.trod_int Yba.underlying5 g0
    obtain ⟨a1, e1, _, w1⟩ := DataW.trod_int Yba.underlying5 g1
    obtain ⟨a2, e2, _, w2⟩ := DataW.trod_int Yba.underlying5 g2
    obtain ⟨a3, e3, _, w3⟩ := DataW.trod_int Yba.underlying2 g3
    obtain ⟨a4, e4, _⟩ := DataW.trod_bool Yba.underlying4 g4
    simp at e0 e1 e2 e3 e4
    subst e0 e1 e2 e3 e4
    have c0 := hcell 0 (by omega)
    have c1 := hcell 1 (by omega)
    have c2 := hcell 2 (by omega)
    have c3 := hcell 3 (by omega)
    have c4 := hcell 4 (by omega)
    rw [add_add] at c0 c1 c2 c3 c4
    exact ⟨(a0, a1, a2, a3, a4), by simpa using c0, by simpa using c1, by simpa using c2, by simpa using c3, by simpa using c4, w0, w1, w2⟩

/-- At a slice that has an element the address is plain. -/
theorem plain_at {w : World} {x : Addr} {len : Nat} (h : ∀ i, i < len → ∃ q, OneOp w x i q) (hp : 0 < len) : ∃ b off, x = ⟨b, off, none⟩ := by
  obtain ⟨q, h0⟩ := h 0 hp
  obtain ⟨b, off, spot⟩ := x
  have hspot : spot = none := by simpa [Addr.add] using World.cell?_spot h0.1
  subst hspot
  exact ⟨b, off, rfl⟩

theorem arg_of {w : World} {b off i : Nat} {q : Int × Int × Int × Int × Bool} (h : OneOp w ⟨b, off, none⟩ i q) : ArgAt b off i q.1 q.2.1 q.2.2.1 q.2.2.2.1 q.2.2.2.2 w := by
  obtain ⟨c0, c1, c2, c3, c4, _⟩ := h
  rw [add_plain] at c0 c1 c2 c3 c4
  exact ⟨c0, c1, c2, c3, c4⟩
end Go.Proofs.Ybulkciu
