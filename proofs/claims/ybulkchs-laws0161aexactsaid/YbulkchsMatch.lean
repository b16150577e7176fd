/-  protocolNode.match: does some layer carry the node's very pointer? -/
import Derived.Test.YbulkchsParts
import Derived.LaidEqlPtr
import Derived.WalkSmall
import Derived.Deep.QuietTactic
import Derived.BigQuiet
namespace Go.Proofs.Ybulkchs
open Go.RowKit
set_option linter.unusedVariables false

/-- A row of layers at block L: layer j bears the protocol P j, all else is zero. -/
def Layers (L len : Nat) (P : Nat → Option Addr) (w : World) : Prop :=
  ∀ j, j < len → w.cell? ⟨L, j * 4, none⟩ = some (.pointer (P j)) ∧ w.cell? ⟨L, j * 4 + 1, none⟩ = some .nilIface ∧ w.cell? ⟨L, j * 4 + 1 + 1, none⟩ = some (.bool false) ∧ w.cell? ⟨L, j * 4 + 1 + 1 + 1, none⟩ = some (.bool false)

/-- Is p among the first k? -/
def among (P : Nat → Option Addr) (p : Option Addr) : Nat → Bool
  | 0 => false
  | k + 1 => among P p k || decide (P k = p)

theorem among_iff (P : Nat → Option Addr) (p : Option Addr) : ∀ n, among P p n = true ↔ ∃ j, j < n ∧ P j = p
  | 0 => by simp [among]
  | n + 1 => by
    simp only [among, Bool.or_eq_true, among_iff P p n, decide_eq_true_eq]
    constructor
    · rintro (⟨j, h, e⟩ | e)
      · exact ⟨j, by omega, e⟩
      · exact ⟨n, by omega, e⟩
    · rintro ⟨j, h, e⟩
      by_cases hj : j = n
      · subst hj; exact .inr e
      · exact .inl ⟨j, by omega, e⟩

/-- A pointer that is nil or leads to a plain row of cells that is there. -/
def Good (w : World) (p : Option Addr) : Prop := ∀ a, p = some a → ∃ c t, w.heap[a.block]? = some (.cells c t (0, 0))

theorem Good.lt {w : World} {a : Addr} (h : Good w (some a)) : a.block < w.heap.size := by
  obtain ⟨c, t, e⟩ := h a rfl
  exact (Array.getElem?_eq_some_iff.1 e).1
theorem Good.below {w w' : World} {p : Option Addr} (h : Good w p) (hb : Below w.heap.size w w') : Good w' p := by
  intro a e
  obtain ⟨c, t, e'⟩ := h a e
  subst e
  exact ⟨c, t, (hb.block a.block h.lt).trans e'⟩

theorem isSize56 : (Yba.prog.info? 56).map (·.size) = some 10 := by kernel_rfl

/-- '==' between two such pointers, of type *Protocol. -/
theorem eql_ptr {w : World} (p q : Option Addr) (hp : Good w p) (hq : Good w q) : (binOp .eql 26 (.pointer p) (.pointer q)).run Yba.prog w = .ok (.bool (decide (p = q))) w := by
  obtain ⟨j, hj, hjs⟩ := Option.map_eq_some_iff.1 isSize56
  match p, q with
  | p, none => 
    have := run_eql_pointer_nil (P := Yba.prog) w 26 p (by kernel_rfl)
    rw [this]; cases p <;> simp
  | none, some b =>
    have h : ∀ d : Nat, (Op.equalIn (d + 1) 26 (.pointer none) (.pointer (some b))).run Yba.prog w = .ok false w := fun d => by
      simp [Op.equalIn, run_underlying Yba.underlying26]
    simp only [binOp]
    simp [Op.equal, Op.maxDepth, h 9999]
  | some a, some b =>
    by_cases h : a = b
    · subst h
      simpa using run_eql_ptr_same (P := Yba.prog) w a Yba.underlying26 hj
    · obtain ⟨ca, ta, ea⟩ := hp a rfl
      obtain ⟨cb, tb, eb⟩ := hq b rfl
      simpa [h] using run_eql_ptr_other (P := Yba.prog) w Yba.underlying26 hj (by rw [hjs]; decide) h ea eb

set_option maxHeartbeats 800000 in
theorem match_any (bn bp L len : Nat) (P : Nat → Option Addr) (p : Option Addr) (w : World) (hlen : len ≤ 1024)
    (hn : w.cell? ⟨bn, 0, none⟩ = some (.pointer p)) (hp : w.cell? ⟨bp, 11, none⟩ = some (.slice (some ⟨L, 0, none⟩) len len)) (hL : Layers L len P w)
    (hg : Good w p) (hG : ∀ j, j < len → Good w (P j)) :
    Calls Yba.prog 7 #[.pointer (some ⟨bn, 0, none⟩), .pointer (some ⟨bp, 0, none⟩)] w fun e w' => e = .returned (.bool (among P p len)) ∧ Below w.heap.size w w' := by
  have hbn : bn < w.heap.size := World.block_lt_of_cell? _ _ hn
  go_enter Yba.func7, Yba.ntmps7
  go_wp2
  go_loopw [12] (fun i wr => ∃ k : Nat, k ≤ len ∧ i = .int .i64 k ∧ among P p k = false ∧ Below w.heap.size w wr) (fun i _ => len - (intOf i).toNat)
  case atStart => exact ⟨0, Nat.zero_le _, rfl, rfl, Below.refl _ _⟩
  case round =>
    obtain ⟨k, hk, rfl, ham, hb⟩ := hrel
    by_cases hlt : k < len
    · obtain ⟨q0, q1, q2, q3⟩ := hL k hlt
      have hbL : L < w.heap.size := World.block_lt_of_cell? _ _ q0
      have r0 := (hb.cell (p := ⟨L, k * 4, none⟩) hbL).trans q0
      have r1 := (hb.cell (p := ⟨L, k * 4 + 1, none⟩) hbL).trans q1
      have r2 := (hb.cell (p := ⟨L, k * 4 + 1 + 1, none⟩) hbL).trans q2
      have r3 := (hb.cell (p := ⟨L, k * 4 + 1 + 1 + 1, none⟩) hbL).trans q3
      have rn := (hb.cell (p := ⟨bn, 0, none⟩) hbn).trans hn
      have hz := hb.size
      have HA : Hid (among P p k = false) := ham
      have hbn' : bn < wr.heap.size := by omega
      clear q0 q1 q2 q3 hL hp hn ham
      have g1 := (hG k hlt).below hb
      have g2 := hg.below hb
      clear hG hg
      have HK : Hid (among P p (k + 1) = decide (P k = p)) := by show (among P p k || _) = _; rw [HA.out]; simp
      have HT : Hid (P k = p → among P p len = true) := fun e => (among_iff P p len).2 ⟨k, hlt, e⟩
      generalize P k = pk at *
      have heq : ∀ n, (binOp .eql 26 (.pointer pk) (.pointer p)).run Yba.prog ((wr.alloc (.cells #[.pointer pk, .nilIface, .bool false, .bool false] 31)).drewN n) = .ok (.bool (decide (pk = p))) ((wr.alloc (.cells #[.pointer pk, .nilIface, .bool false, .bool false] 31)).drewN n) :=
        fun n => eql_ptr pk p (g1.below (below_drewN ((Below.refl _ _).alloc (Nat.le_refl _) _) n)) (g2.below (below_drewN ((Below.refl _ _).alloc (Nat.le_refl _) _) n))
      clear g1 g2
      by_cases he : pk = p
      · have HT' : Hid (among P p len = true) := HT.out he
        have hd : decide (pk = p) = true := by simp [he]
        rw [hd] at heq
        clear hd he HK HT
        go_wp2
        go_quiet (fail)
        go_wp2
        go_ret
        exact ⟨by rw [HT'.out]; rfl, below_drewN (hb.alloc hz _) _⟩
      · have HK' : Hid (among P p (k + 1) = false) := HK.out.trans (by simp [he])
        have hd : decide (pk = p) = false := by simp [he]
        rw [hd] at heq
        clear hd he HK HT
        go_wp2
        go_quiet (fail)
        go_wp2
        go_roundw
        case rel => exact ⟨k + 1, by omega, by go_num, HK'.out, below_drewN (hb.alloc hz _) _⟩
        case measure => simp [intOf]; omega
    · have : k = len := by omega
      subst this
      go_wp2
      go_ret
      exact ⟨by rw [ham]; rfl, hb⟩
end Go.Proofs.Ybulkchs
