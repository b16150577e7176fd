/-  fallBehind's answer, in the form that the law's second loop reads. -/
import Derived.Test.YbulkciuLaid
namespace Go.Proofs.Ybulkciu
open Go.RowKit Go.Maps
set_option linter.unusedVariables false

/-- The answer lies at ao: place m bears the pair p. -/
def Got (ao : Option Addr) (l : List (Nat × Nat)) (w : World) : Prop :=
  ∀ m p, l[m]? = some p → ∃ g, ao = some ⟨g, 0, none⟩ ∧ w.cell? ⟨g, m * 2, none⟩ = some (.int .i64 (p.1 : Nat)) ∧ w.cell? ⟨g, m * 2 + 1, none⟩ = some (.int .i64 (p.2 : Nat))

theorem got_of {w : World} {base : Nat} {v : Value} {l : List (Nat × Nat)} (h : w.ownsRow base 33 2 v l.length (cellsB l)) : ∃ ao cap, v = .slice ao l.length cap ∧ Got ao l w := by
  rcases h.2 with ⟨hv, hn⟩ | ⟨g, cap, cur, hv, _, _, _, _, _, _⟩
  · refine ⟨none, 0, by rw [hv, hn], fun m p hm => ?_⟩
    have : l = [] := List.eq_nil_of_length_eq_zero hn
    rw [this] at hm; simp at hm
  · subst hv
    refine ⟨_, cap, rfl, fun m p hm => ⟨g, rfl, ?_, ?_⟩⟩
    · have hlt := (List.getElem?_eq_some_iff.1 hm).1
      rw [h.cellAt (m * 2) (by omega)]; exact cellsB_fst l m p hm
    · have hlt := (List.getElem?_eq_some_iff.1 hm).1
      rw [h.cellAt (m * 2 + 1) (by omega)]; exact cellsB_snd l m p hm

theorem fall_got (C : Nat → Nat) (kd hi : Nat → Int) (fin : Nat → Bool) (jk sk : Int) (hb len : Nat) (w : World) (hlen : len ≤ 1024) (hC : ∀ j, C j < 6) (hH : Hist hb len C kd hi fin w) (hbl : hb < w.heap.size) :
    Calls Yba.prog 4 #[.slice (some ⟨hb, 0, none⟩) len len, .int .i64 jk, .int .i64 sk] w fun e w' =>
      ∃ ao cap, e = .returned (.slice ao (Bl C kd hi fin jk sk len).length cap) ∧ Got ao (Bl C kd hi fin jk sk len) w' ∧ Hist hb len C kd hi fin w' ∧ Below w.heap.size w w' :=
  (fall_any C kd hi fin jk sk hb len w hlen hC hH hbl).mono fun e w' ⟨v, he, hrow, hbel⟩ => by
    obtain ⟨ao, cap, hv, hg⟩ := got_of hrow
    exact ⟨ao, cap, by rw [he, hv], hg, fun j hj => (hH j hj).below hbel hbl, hbel⟩

/-- The index of the best so far, as the law writes it: -1 for none. -/
def bv : Option Nat → Int | none => -1 | some j => (j : Nat)
theorem nm_beq (a b : Nat) (ha : a < 3) (hb : b < 3) : ((nm a).toList == (nm b).toList) = decide (a = b) := by
  rw [ByteArray.toList_eq, ByteArray.toList_eq]
  match a, ha, b, hb with
  | 0, _, 0, _ => rfl
  | 0, _, 1, _ => rfl
  | 0, _, 2, _ => rfl
  | 1, _, 0, _ => rfl
  | 1, _, 1, _ => rfl
  | 1, _, 2, _ => rfl
  | 2, _, 0, _ => rfl
  | 2, _, 1, _ => rfl
  | 2, _, 2, _ => rfl
end Go.Proofs.Ybulkciu
