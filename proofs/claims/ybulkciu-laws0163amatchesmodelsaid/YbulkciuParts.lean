/-  The history in memory; the map's keys; the found breaches' cells. -/
import Derived.Test.YbulkciuRows
import Derived.Test.YbulkciuPlain
import Derived.WalkKit
import Derived.ProofKit
import Derived.WalkSpells
import Derived.WalkSmall
import Derived.Below
import Derived.Maps.OwnSet
import Derived.Maps.OwnOps
import Derived.DeepKeys4
namespace Go.Proofs.Ybulkciu
open Go.RowKit Go.Maps
set_option linter.unusedVariables false

theorem laidOut : laidOutB Yba.prog = true := by kernel_rfl
theorem row37 : (37 : TypeId) < Yba.prog.types.size := of_decide_eq_true (by kernel_rfl)
theorem wide37 : (match Yba.prog.underlying 37 with | some (.array _ _) | some (.struct _) => true | _ => false) = true := by rw [Yba.underlying37]
theorem law37 : Keyed Yba.prog 37 := Keyed.of_law (deep_law_laid laidOut (m := 3) (by omega) row37 (by kernel_rfl) wide37)
theorem zero3 (w : World) : (zeroValue 3).run Yba.prog w = .ok (.int .i64 0) w := by kernel_rfl
theorem info33 : (Yba.prog.info? 33).map (fun i => (i.zero, i.size, i.bytes)) = some (some (.agg #[.int .i64 0, .int .i64 0]), 2, 16) := by kernel_rfl
theorem info29 : (Yba.prog.info? 29).map (fun i => (i.zero, i.size, i.bytes)) = some (some (.agg #[.string ⟨#[]⟩, .string ⟨#[]⟩, .int .i64 0, .nilIface, .int .i64 0, .int .i64 0, .int .i64 0, .bool false]), 8, 88) := by kernel_rfl

/-- The three names. -/
def nm : Nat → ByteArray | 0 => ⟨#[97]⟩ | 1 => ⟨#[98]⟩ | _ => ⟨#[99]⟩
/-- The key of group c: session c / 2, key c % 2. -/
def kv (c : Nat) : Value := .agg #[.string (nm (c / 2)), .string (nm (c % 2))]
def by3 : Nat → UInt8 | 0 => 97 | 1 => 98 | _ => 99
/-- What that key reads as: each string's length in eight bytes, and its bytes. -/
def kl (c : Nat) : Lit := .string [0, 0, 0, 0, 0, 0, 0, 1, by3 (c / 2), 0, 0, 0, 0, 0, 0, 0, 1, by3 (c % 2)]
theorem keyOf0 : keyOf Yba.prog 37 (kv 0) = some (kl 0) := by kernel_rfl
theorem keyOf1 : keyOf Yba.prog 37 (kv 1) = some (kl 1) := by kernel_rfl
theorem keyOf2 : keyOf Yba.prog 37 (kv 2) = some (kl 2) := by kernel_rfl
theorem keyOf3 : keyOf Yba.prog 37 (kv 3) = some (kl 3) := by kernel_rfl
theorem keyOf4 : keyOf Yba.prog 37 (kv 4) = some (kl 4) := by kernel_rfl
theorem keyOf5 : keyOf Yba.prog 37 (kv 5) = some (kl 5) := by kernel_rfl
theorem keyOf_kv (c : Nat) (h : c < 6) : keyOf Yba.prog 37 (kv c) = some (kl c) := by
  match c, h with
  | 0, _ => exact keyOf0
  | 1, _ => exact keyOf1
  | 2, _ => exact keyOf2
  | 3, _ => exact keyOf3
  | 4, _ => exact keyOf4
  | 5, _ => exact keyOf5

theorem nm_inj (a b : Nat) (ha : a < 3) (hb : b < 3) (h : nm a = nm b) : a = b := by
  match a, ha, b, hb with
  | 0, _, 0, _ => rfl
  | 0, _, 1, _ => simp [nm] at h
  | 0, _, 2, _ => simp [nm] at h
  | 1, _, 0, _ => simp [nm] at h
  | 1, _, 1, _ => rfl
  | 1, _, 2, _ => simp [nm] at h
  | 2, _, 0, _ => simp [nm] at h
  | 2, _, 1, _ => simp [nm] at h
  | 2, _, 2, _ => rfl
theorem kv_inj (a b : Nat) (ha : a < 6) (hb : b < 6) (h : kv a = kv b) : a = b := by
  unfold kv at h
  simp only [Value.agg.injEq] at h
  simp at h
  have h1 := nm_inj _ _ (by omega) (by omega) h.1
  have h2 := nm_inj _ _ (by omega) (by omega) h.2
  omega
theorem kl_inj (a b : Nat) (ha : a < 6) (hb : b < 6) (h : kl a = kl b) : a = b := by
  refine kv_inj a b ha hb (law37.inj (keyOf_kv a ha) ?_)
  rw [h]; exact keyOf_kv b hb

/-- The history lies at block hb: operation j of group C j, kind kd j, hint hi j, final fin j. -/
structure OpAt (hb j : Nat) (c : Nat) (kd hi : Int) (fin : Bool) (w : World) : Prop where
  c0 : w.cell? ⟨hb, j * 8, none⟩ = some (.string (nm (c / 2)))
  c1 : w.cell? ⟨hb, j * 8 + 1, none⟩ = some (.string (nm (c % 2)))
  c2 : w.cell? ⟨hb, j * 8 + 2, none⟩ = some (.int .i64 kd)
  c3 : w.cell? ⟨hb, j * 8 + 3, none⟩ = some .nilIface
  c4 : w.cell? ⟨hb, j * 8 + 4, none⟩ = some (.int .i64 hi)
  c5 : w.cell? ⟨hb, j * 8 + 5, none⟩ = some (.int .i64 0)
  c6 : w.cell? ⟨hb, j * 8 + 6, none⟩ = some (.int .i64 0)
  c7 : w.cell? ⟨hb, j * 8 + 7, none⟩ = some (.bool fin)
def Hist (hb len : Nat) (C : Nat → Nat) (kd hi : Nat → Int) (fin : Nat → Bool) (w : World) : Prop := ∀ j, j < len → OpAt hb j (C j) (kd j) (hi j) (fin j) w

theorem OpAt.below {hb j c : Nat} {kd hi : Int} {fin : Bool} {w w' : World} {B : Nat} (h : OpAt hb j c kd hi fin w) (hw : Below B w w') (hB : hb < B) : OpAt hb j c kd hi fin w' :=
  ⟨(hw.cell hB).trans h.c0, (hw.cell hB).trans h.c1, (hw.cell hB).trans h.c2, (hw.cell hB).trans h.c3, (hw.cell hB).trans h.c4, (hw.cell hB).trans h.c5, (hw.cell hB).trans h.c6, (hw.cell hB).trans h.c7⟩

/-- The cells of a list of breaches. -/
def cellsB (l : List (Nat × Nat)) : List Value := l.flatMap (fun p => [.int .i64 p.1, .int .i64 p.2])
theorem cellsB_snoc (l : List (Nat × Nat)) (i j : Nat) : cellsB (l ++ [(i, j)]) = cellsB l ++ [.int .i64 i, .int .i64 j] := by simp [cellsB]
theorem cellsB_length : ∀ l : List (Nat × Nat), (cellsB l).length = l.length * 2
  | [] => rfl
  | p :: l => by have := cellsB_length l; simp [cellsB] at this ⊢; omega
theorem cellsB_fst : ∀ (l : List (Nat × Nat)) (m : Nat) (p : Nat × Nat), l[m]? = some p → (cellsB l)[m * 2]? = some (.int .i64 p.1)
  | [], _, _, h => by simp at h
  | q :: l, 0, p, h => by simp at h; subst h; rfl
  | q :: l, m + 1, p, h => by
    have := cellsB_fst l m p (by simpa using h)
    rw [show (m + 1) * 2 = m * 2 + 1 + 1 by omega]
    exact this
theorem cellsB_snd : ∀ (l : List (Nat × Nat)) (m : Nat) (p : Nat × Nat), l[m]? = some p → (cellsB l)[m * 2 + 1]? = some (.int .i64 p.2)
  | [], _, _, h => by simp at h
  | q :: l, 0, p, h => by simp at h; subst h; rfl
  | q :: l, m + 1, p, h => by
    have := cellsB_snd l m p (by simpa using h)
    rw [show (m + 1) * 2 + 1 = m * 2 + 1 + 1 + 1 by omega]
    exact this

/-- The map's datum agrees with the holders. -/
def Agree (D : DataW Unit) (f : Nat → Option Nat) : Prop :=
  ∀ c, c < 6 → Maps.has D (kl c) = (f c).isSome ∧ ∀ j, f c = some j → D.atKey (kl c) (.lit (.int .i64 0)) = .lit (.int .i64 (j : Nat))
theorem agree_start (f : Nat → Option Nat) (h : ∀ c, f c = none) : Agree (.map []) f := fun c hc => by
  rw [h c]; exact ⟨rfl, fun j e => by simp at e⟩
theorem Agree.same {D : DataW Unit} {f g : Nat → Option Nat} (h : Agree D f) (e : ∀ c, c < 6 → g c = f c) : Agree D g := fun c hc => by rw [e c hc]; exact h c hc
theorem Agree.put {D : DataW Unit} {f g : Nat → Option Nat} (h : Agree D f) (hD : IsMap D) {c k : Nat} (hc : c < 6) (e : g c = some k) (e' : ∀ c', c' < 6 → c' ≠ c → g c' = f c') :
    Agree (D.put (kl c) (.lit (.int .i64 (k : Nat)))) g := fun c' hc' => by
  have hk := law37.key (keyOf_kv c hc)
  by_cases x : c' = c
  · subst x
    rw [e]
    refine ⟨has_put_same hD hk _, fun j ej => ?_⟩
    simp at ej; subst ej
    exact atKey_put_same hD hk _ _
  · have hne : kl c' ≠ kl c := fun y => x (kl_inj c' c hc' hc y)
    rw [e' c' hc' x, has_put_other hne, atKey_put_other hne]
    exact h c' hc'
end Go.Proofs.Ybulkciu
