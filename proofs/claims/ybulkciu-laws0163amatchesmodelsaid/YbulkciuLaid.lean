/-  What the first loop of LawS0163AMatchesModel lays: the history. -/
import Derived.Test.YbulkciuFall
import Derived.Laws.MakeOwn
import Derived.BigRegion
import Derived.RegionTactic
import Derived.Deep.RegionHeld3
namespace Go.Proofs.Ybulkciu
open Go.RowKit Go.Maps
set_option linter.unusedVariables false

/-- The zero operation's cells, n of them one behind the other. -/
def zeros (n : Nat) : Array Value := madeCells #[.string ⟨#[]⟩, .string ⟨#[]⟩, .int .i64 0, .nilIface, .int .i64 0, .int .i64 0, .int .i64 0, .bool false] n

theorem make24 (n : Nat) (hn : n ≤ 1024) (W : World) : (Instr.makeSlice 24 (.int .i64 (n : Int)) (.int .i64 (n : Int))).run Yba.prog W = .ok (.slice (some ⟨W.heap.size, 0, none⟩) n n) (W.alloc (.cells (zeros (n * 8)) 29)) := by
  obtain ⟨i, hi, e1, e2, e3⟩ := info_parts info29
  have := run_make (P := Yba.prog) W 24 29 i _ Yba.underlying24 hi e1 .i64 .i64 n n (by omega) (Int.le_refl _) (by rw [e3]; omega) (by omega)
  rw [e2] at this
  exact this

/-- An argument's operation at place j: selectors s, k, d, the hint h, the mark f. -/
structure ArgAt (b off j : Nat) (s k d h : Int) (f : Bool) (w : World) : Prop where
  c0 : w.cell? ⟨b, off + j * 5, none⟩ = some (.int .u8 s)
  c1 : w.cell? ⟨b, off + j * 5 + 1, none⟩ = some (.int .u8 k)
  c2 : w.cell? ⟨b, off + j * 5 + 2, none⟩ = some (.int .u8 d)
  c3 : w.cell? ⟨b, off + j * 5 + 3, none⟩ = some (.int .i64 h)
  c4 : w.cell? ⟨b, off + j * 5 + 4, none⟩ = some (.bool f)
theorem ArgAt.below {b off j : Nat} {s k d h : Int} {f : Bool} {w w' : World} {B : Nat} (x : ArgAt b off j s k d h f w) (hw : Below B w w') (hB : b < B) : ArgAt b off j s k d h f w' :=
  ⟨(hw.cell hB).trans x.c0, (hw.cell hB).trans x.c1, (hw.cell hB).trans x.c2, (hw.cell hB).trans x.c3, (hw.cell hB).trans x.c4⟩

/-- The names lie at block N. -/
structure Names (N : Nat) (w : World) : Prop where
  n0 : w.cell? ⟨N, 0, none⟩ = some (.string (nm 0))
  n1 : w.cell? ⟨N, 1, none⟩ = some (.string (nm 1))
  n2 : w.cell? ⟨N, 2, none⟩ = some (.string (nm 2))
theorem Names.at {N : Nat} {w : World} (h : Names N w) (i : Nat) (hi : i < 3) : w.cell? ⟨N, i, none⟩ = some (.string (nm i)) := by
  match i, hi with
  | 0, _ => exact h.n0
  | 1, _ => exact h.n1
  | 2, _ => exact h.n2

/-- Eight cells written one behind the other. -/
def put8 (W : World) (L o : Nat) (v0 v1 v2 v3 v4 v5 v6 v7 : Value) : World :=
  (((((((W.setCell ⟨L, o, none⟩ v0).setCell ⟨L, o + 1, none⟩ v1).setCell ⟨L, o + 2, none⟩ v2).setCell ⟨L, o + 3, none⟩ v3).setCell ⟨L, o + 4, none⟩ v4).setCell ⟨L, o + 5, none⟩ v5).setCell ⟨L, o + 6, none⟩ v6).setCell ⟨L, o + 7, none⟩ v7
theorem so (W : World) (L : Nat) {o o' : Nat} (v : Value) (h : o ≠ o') : (W.setCell ⟨L, o, none⟩ v).cell? ⟨L, o', none⟩ = W.cell? ⟨L, o', none⟩ :=
  World.cell?_setCell_other _ _ _ _ (fun e => h (by injection e))
theorem put8_other (W : World) (L o : Nat) (v0 v1 v2 v3 v4 v5 v6 v7 : Value) (o' : Nat) (h : o' < o ∨ o + 8 ≤ o') : (put8 W L o v0 v1 v2 v3 v4 v5 v6 v7).cell? ⟨L, o', none⟩ = W.cell? ⟨L, o', none⟩ := by
  unfold put8
  rw [so _ _ _ (by omega), so _ _ _ (by omega), so _ _ _ (by omega), so _ _ _ (by omega), so _ _ _ (by omega), so _ _ _ (by omega), so _ _ _ (by omega), so _ _ _ (by omega)]
theorem put8_below {W0 W : World} {B : Nat} (h : Below B W0 W) (L o : Nat) (hB : B ≤ L) (v0 v1 v2 v3 v4 v5 v6 v7 : Value) : Below B W0 (put8 W L o v0 v1 v2 v3 v4 v5 v6 v7) :=
  (((((((h.setCell hB v0).setCell hB v1).setCell hB v2).setCell hB v3).setCell hB v4).setCell hB v5).setCell hB v6).setCell hB v7
theorem put8_frozen (W : World) (L o : Nat) (v0 v1 v2 v3 v4 v5 v6 v7 : Value) (a : Addr) : (put8 W L o v0 v1 v2 v3 v4 v5 v6 v7).frozen? a = W.frozen? a := by
  unfold put8; simp
theorem put8_size (W : World) (L o : Nat) (v0 v1 v2 v3 v4 v5 v6 v7 : Value) : (put8 W L o v0 v1 v2 v3 v4 v5 v6 v7).heap.size = W.heap.size := by
  unfold put8; simp
/-- A cell that is there is there behind a store beside it. -/
theorem st (W : World) (L o : Nat) (v : Value) {o' : Nat} {x : Value} (h : W.cell? ⟨L, o', none⟩ = some x) : ∃ y, (W.setCell ⟨L, o, none⟩ v).cell? ⟨L, o', none⟩ = some y := by
  by_cases e : o = o'
  · subst e; exact ⟨v, World.cell?_setCell_same _ _ _ h⟩
  · exact ⟨x, by rw [so _ _ _ e]; exact h⟩
theorem put8_at (W : World) (L o : Nat) (v0 v1 v2 v3 v4 v5 v6 v7 : Value) (h : ∀ i, i < 8 → ∃ x, W.cell? ⟨L, o + i, none⟩ = some x) :
    let w' := put8 W L o v0 v1 v2 v3 v4 v5 v6 v7
    w'.cell? ⟨L, o, none⟩ = some v0 ∧ w'.cell? ⟨L, o + 1, none⟩ = some v1 ∧ w'.cell? ⟨L, o + 2, none⟩ = some v2 ∧ w'.cell? ⟨L, o + 3, none⟩ = some v3 ∧
    w'.cell? ⟨L, o + 4, none⟩ = some v4 ∧ w'.cell? ⟨L, o + 5, none⟩ = some v5 ∧ w'.cell? ⟨L, o + 6, none⟩ = some v6 ∧ w'.cell? ⟨L, o + 7, none⟩ = some v7 := by
  obtain ⟨x0, h0⟩ := h 0 (by omega)
  obtain ⟨x1, h1⟩ := h 1 (by omega)
  obtain ⟨x2, h2⟩ := h 2 (by omega)
  obtain ⟨x3, h3⟩ := h 3 (by omega)
  obtain ⟨x4, h4⟩ := h 4 (by omega)
  obtain ⟨x5, h5⟩ := h 5 (by omega)
  obtain ⟨x6, h6⟩ := h 6 (by omega)
  obtain ⟨x7, h7⟩ := h 7 (by omega)
  simp only [Nat.add_zero] at h0
  unfold put8
  refine ⟨?_, ?_, ?_, ?_, ?_, ?_, ?_, ?_⟩
  · rw [so _ _ _ (by omega), so _ _ _ (by omega), so _ _ _ (by omega), so _ _ _ (by omega), so _ _ _ (by omega), so _ _ _ (by omega), so _ _ _ (by omega)]
    exact World.cell?_setCell_same _ _ _ h0
  · rw [so _ _ _ (by omega), so _ _ _ (by omega), so _ _ _ (by omega), so _ _ _ (by omega), so _ _ _ (by omega), so _ _ _ (by omega)]
    refine World.cell?_setCell_same _ _ _ (u := x1) ?_
    rw [so _ _ _ (by omega)]; exact h1
  · rw [so _ _ _ (by omega), so _ _ _ (by omega), so _ _ _ (by omega), so _ _ _ (by omega), so _ _ _ (by omega)]
    refine World.cell?_setCell_same _ _ _ (u := x2) ?_
    rw [so _ _ _ (by omega), so _ _ _ (by omega)]; exact h2
  · rw [so _ _ _ (by omega), so _ _ _ (by omega), so _ _ _ (by omega), so _ _ _ (by omega)]
    refine World.cell?_setCell_same _ _ _ (u := x3) ?_
    rw [so _ _ _ (by omega), so _ _ _ (by omega), so _ _ _ (by omega)]; exact h3
  · rw [so _ _ _ (by omega), so _ _ _ (by omega), so _ _ _ (by omega)]
    refine World.cell?_setCell_same _ _ _ (u := x4) ?_
    rw [so _ _ _ (by omega), so _ _ _ (by omega), so _ _ _ (by omega), so _ _ _ (by omega)]; exact h4
  · rw [so _ _ _ (by omega), so _ _ _ (by omega)]
    refine World.cell?_setCell_same _ _ _ (u := x5) ?_
    rw [so _ _ _ (by omega), so _ _ _ (by omega), so _ _ _ (by omega), so _ _ _ (by omega), so _ _ _ (by omega)]; exact h5
  · rw [so _ _ _ (by omega)]
    refine World.cell?_setCell_same _ _ _ (u := x6) ?_
    rw [so _ _ _ (by omega), so _ _ _ (by omega), so _ _ _ (by omega), so _ _ _ (by omega), so _ _ _ (by omega), so _ _ _ (by omega)]; exact h6
  · refine World.cell?_setCell_same _ _ _ (u := x7) ?_
    rw [so _ _ _ (by omega), so _ _ _ (by omega), so _ _ _ (by omega), so _ _ _ (by omega), so _ _ _ (by omega), so _ _ _ (by omega), so _ _ _ (by omega)]; exact h7

section
variable (S K Kd Hi : Nat → Int) (fin : Nat → Bool)
/-- The group of operation j. -/
def cls (j : Nat) : Nat := (S j % 3).toNat * 2 + (K j % 2).toNat
def knd (j : Nat) : Int := Kd j % 3
theorem cls_lt (j : Nat) : cls S K j < 6 := by unfold cls; omega

/-- What the first loop keeps: k operations are laid; the rest is room. -/
structure Laid (w : World) (len k : Nat) (wr : World) : Prop where
  hist : Hist (w.heap.size + 1) k (cls S K) (knd Kd) Hi fin wr
  room : ∀ o, o < len * 8 → ∃ u, wr.cell? ⟨w.heap.size + 1, o, none⟩ = some u
  frozen : ∀ o, wr.frozen? ⟨w.heap.size + 1, o, none⟩ = false
  names : Names w.heap.size wr
  below : Below w.heap.size w wr
  size : w.heap.size + 2 ≤ wr.heap.size


theorem cls_div (j : Nat) : cls S K j / 2 = (S j % 3).toNat := by unfold cls; omega
theorem cls_mod (j : Nat) : cls S K j % 2 = (K j % 2).toNat := by unfold cls; omega

theorem zeros_some (n o : Nat) (h : o < n) : ∃ u, (zeros n)[o]? = some u := by
  refine ⟨(zeros n)[o]'(by rw [zeros, size_madeCells]; exact h), ?_⟩
  exact Array.getElem?_eq_getElem _

variable {S K Kd Hi fin}
theorem laid_start (w : World) (len : Nat) (o : Obj) (ho : o = .cells #[.string (nm 0), .string (nm 1), .string (nm 2)] 23) : Laid S K Kd Hi fin w len 0 ((w.alloc o).alloc (.cells (zeros (len * 8)) 29)) := by
  subst ho
  refine ⟨fun j hj => by omega, fun o ho => ?_, fun o => ?_, ⟨?_, ?_, ?_⟩, ((Below.refl _ _).alloc (Nat.le_refl _) _).alloc (by simp) _, by simp⟩
  · obtain ⟨u, hu⟩ := zeros_some (len * 8) o ho
    refine ⟨u, ?_⟩
    have := World.cell?_alloc_new (w.alloc (.cells #[.string (nm 0), .string (nm 1), .string (nm 2)] 23)) (zeros (len * 8)) 29 o
    simp only [World.size_alloc] at this
    rw [this]; exact hu
  · have := World.frozen?_alloc_new (w.alloc (.cells #[.string (nm 0), .string (nm 1), .string (nm 2)] 23)) (zeros (len * 8)) 29 o
    simp only [World.size_alloc] at this
    exact this
  · rw [World.cell?_alloc_lt _ _ _ (by simp)]; exact World.cell?_alloc_new _ _ _ 0
  · rw [World.cell?_alloc_lt _ _ _ (by simp)]; exact World.cell?_alloc_new _ _ _ 1
  · rw [World.cell?_alloc_lt _ _ _ (by simp)]; exact World.cell?_alloc_new _ _ _ 2

theorem Laid.drew {w wr : World} {len k : Nat} (h : Laid S K Kd Hi fin w len k wr) : Laid S K Kd Hi fin w len k wr.drew :=
  ⟨fun j hj => ⟨(h.hist j hj).c0, (h.hist j hj).c1, (h.hist j hj).c2, (h.hist j hj).c3, (h.hist j hj).c4, (h.hist j hj).c5, (h.hist j hj).c6, (h.hist j hj).c7⟩, h.room, h.frozen, ⟨h.names.n0, h.names.n1, h.names.n2⟩, h.below.drew, h.size⟩

theorem put8_some (W : World) (L o : Nat) (v0 v1 v2 v3 v4 v5 v6 v7 : Value) (x : Nat) (h : ∃ u, W.cell? ⟨L, x, none⟩ = some u) : ∃ u, (put8 W L o v0 v1 v2 v3 v4 v5 v6 v7).cell? ⟨L, x, none⟩ = some u := by
  obtain ⟨u, hu⟩ := h
  unfold put8
  obtain ⟨u, hu⟩ := st W L o v0 hu
  obtain ⟨u, hu⟩ := st _ _ (o + 1) v1 hu
  obtain ⟨u, hu⟩ := st _ _ (o + 2) v2 hu
  obtain ⟨u, hu⟩ := st _ _ (o + 3) v3 hu
  obtain ⟨u, hu⟩ := st _ _ (o + 4) v4 hu
  obtain ⟨u, hu⟩ := st _ _ (o + 5) v5 hu
  obtain ⟨u, hu⟩ := st _ _ (o + 6) v6 hu
  exact st _ _ (o + 7) v7 hu

theorem Laid.step {w wr : World} {len k : Nat} (h : Laid S K Kd Hi fin w len k wr) (hlt : k < len) (o : Obj) :
    Laid S K Kd Hi fin w len (k + 1) (put8 (wr.alloc o) (w.heap.size + 1) (k * 8) (.string (nm (S k % 3).toNat)) (.string (nm (K k % 2).toNat)) (.int .i64 (Kd k % 3)) .nilIface (.int .i64 (Hi k)) (.int .i64 0) (.int .i64 0) (.bool (fin k))) := by
  have hs := h.size
  have hal : ∀ x : Nat, (wr.alloc o).cell? ⟨w.heap.size + 1, x, none⟩ = wr.cell? ⟨w.heap.size + 1, x, none⟩ := fun x => World.cell?_alloc_lt _ _ _ (by show w.heap.size + 1 < _; omega)
  have hfr : ∀ x : Nat, (wr.alloc o).frozen? ⟨w.heap.size + 1, x, none⟩ = false := fun x => by rw [World.frozen?_alloc_old _ _ _ (by show w.heap.size + 1 ≠ _; omega)]; exact h.frozen x
  have hsz : w.heap.size + 2 ≤ (wr.alloc o).heap.size := by rw [World.size_alloc]; omega
  have hb0 : Below (w.heap.size + 1) wr (wr.alloc o) := (Below.refl _ _).alloc (by omega) _
  have hroom : ∀ x, x < len * 8 → ∃ u, (wr.alloc o).cell? ⟨w.heap.size + 1, x, none⟩ = some u := fun x hx => by rw [hal]; exact h.room x hx
  generalize wr.alloc o = wa at *
  have A := put8_at wa (w.heap.size + 1) (k * 8) (.string (nm (S k % 3).toNat)) (.string (nm (K k % 2).toNat)) (.int .i64 (Kd k % 3)) .nilIface (.int .i64 (Hi k)) (.int .i64 0) (.int .i64 0) (.bool (fin k)) (fun i hi => hroom _ (by omega))
  have O := put8_other wa (w.heap.size + 1) (k * 8) (.string (nm (S k % 3).toNat)) (.string (nm (K k % 2).toNat)) (.int .i64 (Kd k % 3)) .nilIface (.int .i64 (Hi k)) (.int .i64 0) (.int .i64 0) (.bool (fin k))
  have R := put8_some wa (w.heap.size + 1) (k * 8) (.string (nm (S k % 3).toNat)) (.string (nm (K k % 2).toNat)) (.int .i64 (Kd k % 3)) .nilIface (.int .i64 (Hi k)) (.int .i64 0) (.int .i64 0) (.bool (fin k))
  have Z := put8_frozen wa (w.heap.size + 1) (k * 8) (.string (nm (S k % 3).toNat)) (.string (nm (K k % 2).toNat)) (.int .i64 (Kd k % 3)) .nilIface (.int .i64 (Hi k)) (.int .i64 0) (.int .i64 0) (.bool (fin k))
  have Q := put8_size wa (w.heap.size + 1) (k * 8) (.string (nm (S k % 3).toNat)) (.string (nm (K k % 2).toNat)) (.int .i64 (Kd k % 3)) .nilIface (.int .i64 (Hi k)) (.int .i64 0) (.int .i64 0) (.bool (fin k))
  have hb1 := put8_below hb0 (w.heap.size + 1) (k * 8) (Nat.le_refl _) (.string (nm (S k % 3).toNat)) (.string (nm (K k % 2).toNat)) (.int .i64 (Kd k % 3)) .nilIface (.int .i64 (Hi k)) (.int .i64 0) (.int .i64 0) (.bool (fin k))
  generalize put8 wa (w.heap.size + 1) (k * 8) (.string (nm (S k % 3).toNat)) (.string (nm (K k % 2).toNat)) (.int .i64 (Kd k % 3)) .nilIface (.int .i64 (Hi k)) (.int .i64 0) (.int .i64 0) (.bool (fin k)) = W' at *
  refine ⟨fun j hj => ?_, fun x hx => R x (hroom x hx), fun x => (Z _).trans (hfr x), ⟨?_, ?_, ?_⟩, h.below.trans (hb1.mono (by omega)), by omega⟩
  · by_cases e : j = k
    · subst e
      obtain ⟨a0, a1, a2, a3, a4, a5, a6, a7⟩ := A
      exact ⟨by rw [cls_div]; exact a0, by rw [cls_mod]; exact a1, a2, a3, a4, a5, a6, a7⟩
    · obtain ⟨a0, a1, a2, a3, a4, a5, a6, a7⟩ := h.hist j (by omega)
      have key : ∀ i, i < 8 → W'.cell? ⟨w.heap.size + 1, j * 8 + i, none⟩ = wr.cell? ⟨w.heap.size + 1, j * 8 + i, none⟩ := fun i hi => (O _ (by omega)).trans (hal _)
      exact ⟨(key 0 (by omega)).trans a0, (key 1 (by omega)).trans a1, (key 2 (by omega)).trans a2, (key 3 (by omega)).trans a3, (key 4 (by omega)).trans a4, (key 5 (by omega)).trans a5, (key 6 (by omega)).trans a6, (key 7 (by omega)).trans a7⟩
  · exact (hb1.cell (Nat.lt_succ_self _)).trans h.names.n0
  · exact (hb1.cell (Nat.lt_succ_self _)).trans h.names.n1
  · exact (hb1.cell (Nat.lt_succ_self _)).trans h.names.n2
end
end Go.Proofs.Ybulkciu
