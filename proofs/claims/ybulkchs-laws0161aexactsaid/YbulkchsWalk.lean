/-  The walk of LawS0161AExact. -/
import Derived.Test.YbulkchsMatch
import Derived.Laws.MakeOwn
namespace Go.Proofs.Ybulkchs.lawS0161AExact
open Go.RowKit Go.Proofs.Ybulkchs
set_option linter.unusedVariables false

/-- The zero layer's cells, n of them one behind the other. -/
def zeros (n : Nat) : Array Value := madeCells #[.pointer none, .nilIface, .bool false, .bool false] n

theorem info31 : (Yba.prog.info? 31).map (fun i => (i.zero, i.size, i.bytes)) = some (some (.agg #[.pointer none, .nilIface, .bool false, .bool false]), 4, 32) := by kernel_rfl

theorem make31 (n : Nat) (hn : n ≤ 1024) (W : World) : (Instr.makeSlice 25 (.int .i64 (n : Int)) (.int .i64 (n : Int))).run Yba.prog W = .ok (.slice (some ⟨W.heap.size, 0, none⟩) n n) (W.alloc (.cells (zeros (n * 4)) 31)) := by
  obtain ⟨i, hi, e⟩ := Option.map_eq_some_iff.1 info31
  simp only [Prod.mk.injEq] at e
  obtain ⟨e1, e2, e3⟩ := e
  have := run_make (P := Yba.prog) W 25 31 i _ Yba.underlying25 hi e1 .i64 .i64 n n (by omega) (Int.le_refl _) (by rw [e3]; omega) (by omega)
  rw [e2] at this
  exact this

/-- The protocols of the layers when k of them are set. -/
def prot (N : Nat) (zs : List Int) (k j : Nat) : Option Addr := if j < k then pp N (zs.getD j 0) else none

theorem zeros_at (n j m : Nat) (h : j < n) (hm : m < 4) : (zeros (n * 4))[j * 4 + m]? = (#[.pointer none, .nilIface, .bool false, .bool false] : Array Value)[m]? := by
  unfold zeros madeCells
  have e : (j * 4 + m) % 4 = m := by omega
  have : j * 4 + m < n * 4 := by omega
  simp [this, e]
  match m, hm with
  | 0, _ => rfl
  | 1, _ => rfl
  | 2, _ => rfl
  | 3, _ => rfl

theorem layers_zero (w : World) (N len : Nat) (zs : List Int) (L : Nat) (hL : L = w.heap.size) : Layers L len (prot N zs 0) (w.alloc (.cells (zeros (len * 4)) 31)) := by
  subst hL
  intro j hj
  have z0 := zeros_at len j 0 hj (by omega)
  have z1 := zeros_at len j 1 hj (by omega)
  have z2 := zeros_at len j 2 hj (by omega)
  have z3 := zeros_at len j 3 hj (by omega)
  refine ⟨?_, ?_, ?_, ?_⟩
  · rw [World.cell?_alloc_new]; exact z0
  · rw [World.cell?_alloc_new]; exact z1
  · rw [World.cell?_alloc_new]; exact z2
  · rw [World.cell?_alloc_new]; exact z3

theorem cell_other (w : World) (L : Nat) {o o' : Nat} (v : Value) (h : o ≠ o') : (w.setCell ⟨L, o, none⟩ v).cell? ⟨L, o', none⟩ = w.cell? ⟨L, o', none⟩ :=
  World.cell?_setCell_other _ _ _ _ (fun e => h (by injection e))

theorem layers_set {w : World} {N L len k : Nat} {zs : List Int} (h : Layers L len (prot N zs k) w) (hk : k < len) :
    Layers L len (prot N zs (k + 1)) (w.setCell ⟨L, k * 4, none⟩ (.pointer (pp N (zs.getD k 0)))) := by
  intro j hj
  obtain ⟨a0, a1, a2, a3⟩ := h j hj
  by_cases e : j = k
  · subst e
    refine ⟨?_, ?_, ?_, ?_⟩
    · rw [World.cell?_setCell_same _ _ _ a0]; simp [prot]
    · exact (cell_other _ _ _ (by omega)).trans a1
    · exact (cell_other _ _ _ (by omega)).trans a2
    · exact (cell_other _ _ _ (by omega)).trans a3
  · have e' : prot N zs (k + 1) j = prot N zs k j := by
      unfold prot
      by_cases h : j < k
      · rw [if_pos h, if_pos (by omega)]
      · rw [if_neg h, if_neg (by omega)]
    rw [e']
    refine ⟨?_, ?_, ?_, ?_⟩
    · exact (cell_other _ _ _ (by omega)).trans a0
    · exact (cell_other _ _ _ (by omega)).trans a1
    · exact (cell_other _ _ _ (by omega)).trans a2
    · exact (cell_other _ _ _ (by omega)).trans a3

theorem Layers.below {w w' : World} {L len B : Nat} {P : Nat → Option Addr} (h : Layers L len P w) (hb : Below B w w') (hB : L < B) : Layers L len P w' := fun j hj => by
  obtain ⟨a0, a1, a2, a3⟩ := h j hj
  exact ⟨(hb.cell hB).trans a0, (hb.cell hB).trans a1, (hb.cell hB).trans a2, (hb.cell hB).trans a3⟩

theorem good_pp {N : Nat} {w : World} (h : Tab N w) (x : Int) (hx : 0 ≤ x) : Good w (pp N x) := by
  intro a e
  unfold pp at e
  split at e
  · simp at e
  · simp at e
    subst e
    exact h.g _ (by omega)

theorem among_congr {P Q : Nat → Option Addr} {p : Option Addr} : ∀ n, (∀ j, j < n → P j = Q j) → among P p n = among Q p n
  | 0, _ => rfl
  | n + 1, h => by simp only [among]; rw [among_congr n (fun j hj => h j (by omega)), h n (by omega)]

theorem box1 {wr : World} {n : Nat} (h : wr.heap.size = n) (c0 c1 : Array Value) (t0 t1 : TypeId) (i : Nat) : ((wr.alloc (.cells c0 t0)).alloc (.cells c1 t1)).cell? ⟨n + 1, i, none⟩ = c1[i]? := by
  have := World.cell?_alloc_new (wr.alloc (.cells c0 t0)) c1 t1 i
  simpa [h] using this
theorem box0 {wr : World} {n : Nat} (h : wr.heap.size = n) (c0 c1 : Array Value) (t0 t1 : TypeId) (i : Nat) : ((wr.alloc (.cells c0 t0)).alloc (.cells c1 t1)).cell? ⟨n, i, none⟩ = c0[i]? := by
  subst h
  rw [World.cell?_alloc_lt _ _ _ (by simp)]
  exact World.cell?_alloc_new wr c0 t0 i
theorem below_two (wr : World) (o0 o1 : Obj) : Below wr.heap.size wr ((wr.alloc o0).alloc o1) := ((Below.refl _ _).alloc (Nat.le_refl _) _).alloc (by simp) _

set_option maxHeartbeats 1600000 in
theorem walk_row (b off len cap : Nat) (zs : List Int) (q : Int) (w : World) (hz : len ≤ zs.length) (hbig : len ≤ 1024) (hq0 : 0 ≤ q) (hq1 : q ≤ 255)
    (hc : ∀ j, j < zs.length → w.cell? ⟨b, off + j, none⟩ = some (.int .u8 (zs.getD j 0))) (hwf : ∀ j, j < zs.length → 0 ≤ zs.getD j 0 ∧ zs.getD j 0 ≤ 255) :
    Calls Yba.prog 3 #[.slice (some ⟨b, off, none⟩) len cap, .int .u8 q] w fun e w' => e = .returned (.bool true) ∧ Below w.heap.size w w' := by
  have hmk := make31 len hbig
  have hblt : 0 < len → b < w.heap.size := fun h => World.block_lt_of_cell? _ _ (hc 0 (by omega))
  go_enter Yba.func3, Yba.ntmps3
  go_wp2_with (go_at_call 5; refine (table_any _).mono ?_; rintro e w1 ⟨rfl, ht, hs, hb⟩)
  go_loopw [7] (fun i wr => ∃ k : Nat, k ≤ len ∧ i = .int .i64 k ∧ Layers (w.heap.size + 4) len (prot w.heap.size zs k) wr ∧ Tab w.heap.size wr ∧ (∀ o, wr.frozen? ⟨w.heap.size + 4, o, none⟩ = false) ∧ wr.heap.size = w.heap.size + 5 ∧ Below w.heap.size w wr)
    (fun i _ => len - (intOf i).toNat)
  case atStart =>
    refine ⟨0, Nat.zero_le _, rfl, layers_zero w1 _ _ _ _ hs.symm, ht.below ((Below.refl w1.heap.size _).alloc (Nat.le_refl _) _) (by omega), ?_, by simp [hs], hb.alloc (by omega) _⟩
    intro o
    rw [← hs]
    exact World.frozen?_alloc_new _ _ _ _
  case round =>
    obtain ⟨k, hk, rfl, hL, hT, hf, hsz, hB⟩ := hrel
    clear hmk ht hs hb
    by_cases hlt : k < len
    · have hcell : wr.cell? ⟨b, off + k, none⟩ = some (.int .u8 (zs.getD k 0)) := (hB.cell (hblt (by omega))).trans (hc k (by omega))
      obtain ⟨v0, v1⟩ := hwf k (by omega)
      have R := layers_set hL hlt
      have ha := (hL k hlt).1
      have RT : Tab w.heap.size (wr.setCell ⟨w.heap.size + 4, k * 4, none⟩ (.pointer (pp w.heap.size (zs.getD k 0)))) := hT.below ((Below.refl (w.heap.size + 4) _).setCell (by simp) _) (by omega)
      have RB : Below w.heap.size w (wr.setCell ⟨w.heap.size + 4, k * 4, none⟩ (.pointer (pp w.heap.size (zs.getD k 0)))) := hB.setCell (by simp) _
      have HH : Hid _ := And.intro R (And.intro RT (And.intro hsz RB))
      have HT : Hid (Tab w.heap.size wr) := hT
      clear R RT RB hL hT hc hwf
      generalize zs.getD k 0 = v at *
      go_wp2_with (go_at_call 6; refine (pick_any _ _ _ v0 v1 HT.out).mono ?_; rintro e w2 ⟨rfl, rfl⟩)
      go_roundw
      case rel => exact ⟨k + 1, by omega, by go_num, HH.out.1, HH.out.2.1, fun o => by simp [hf], by simpa using hsz, HH.out.2.2.2⟩
      case measure => simp [intOf]; omega
    · have : k = len := by omega
      subst this
      have hA : ∀ j, j < k → prot w.heap.size zs k j = pp w.heap.size (zs.getD j 0) := fun j hj => by unfold prot; rw [if_pos hj]
      have hG : ∀ j, j < k → Good wr (prot w.heap.size zs k j) := fun j hj => by rw [hA j hj]; exact good_pp hT _ (hwf j (by omega)).1
      have hg := good_pp hT q hq0
      have hP := among_congr (p := pp w.heap.size q) k hA
      have HP : Hid _ := hP
      have HL : Hid (Layers (w.heap.size + 4) k (prot w.heap.size zs k) wr) := hL
      have HT : Hid (Tab w.heap.size wr) := hT
      have HC : Hid (∀ j, j < zs.length → wr.cell? ⟨b, off + j, none⟩ = some (.int .u8 (zs.getD j 0))) := fun j hj => (hB.cell (World.block_lt_of_cell? _ _ (hc j hj))).trans (hc j hj)
      clear hP hA hL hT hc
      go_wp2_with fail
      refine Calls.mono (pick_any _ _ _ hq0 hq1 (HT.out.below ((Below.refl wr.heap.size _).alloc (Nat.le_refl _) _) (by omega))) ?_
      rintro e w2 ⟨rfl, rfl⟩
      go_wp2_with fail
      refine Calls.mono (match_any _ _ (w.heap.size + 4) k (prot w.heap.size zs k) (pp w.heap.size q) _ hbig ?hn ?hp ?hL ?hg ?hG) ?_
      case hn => exact box1 hsz _ _ _ _ 0
      case hp => exact box0 hsz _ _ _ _ 11
      case hL => exact Layers.below HL.out (below_two _ _ _) (by omega)
      case hg => exact hg.below (below_two _ _ _)
      case hG => exact fun j hj => (hG j hj).below (below_two _ _ _)
      rintro e w2 ⟨rfl, hb2⟩
      have hB2 : Below w.heap.size w w2 := (hB.trans ((below_two wr _ _).mono (by omega))).trans (hb2.mono (by simp; omega))
      have HC2 : Hid (∀ j, j < zs.length → w2.cell? ⟨b, off + j, none⟩ = some (.int .u8 (zs.getD j 0))) := fun j hj => by
        have hlt : b < wr.heap.size := World.block_lt_of_cell? _ _ (HC.out j hj)
        rw [hb2.cell (by simp; omega), (below_two wr _ _).cell hlt]
        exact HC.out j hj
      rw [HP.out]
      clear hG hg HP HL HT HC hb2 hB hf hsz
      go_wp2
      go_loop [11, 12] (fun v i => ∃ m : Nat, m ≤ k ∧ i = .int .i64 m ∧ v = .bool (among (fun j => pp w.heap.size (zs.getD j 0)) (pp w.heap.size q) m)) (fun _ i => k - (intOf i).toNat)
      case atStart => exact ⟨0, Nat.zero_le _, rfl, rfl⟩
      case round =>
        obtain ⟨m, hm, rfl, rfl⟩ := hrel
        by_cases hlt2 : m < k
        · have hcell := HC2.out m (by omega)
          obtain ⟨v0, v1⟩ := hwf m (by omega)
          have hI := pp_inj w.heap.size (zs.getD m 0) q v0 hq0
          have HN : Hid (among (fun j => pp w.heap.size (zs.getD j 0)) (pp w.heap.size q) (m + 1) = (among (fun j => pp w.heap.size (zs.getD j 0)) (pp w.heap.size q) m || decide (zs.getD m 0 % 4 = q % 4))) := by
            show (_ || decide (pp w.heap.size (zs.getD m 0) = pp w.heap.size q)) = _
            rw [decide_eq_decide.2 hI]
          clear hI hwf HC2
          generalize zs.getD m 0 = v at *
          generalize among (fun j => pp w.heap.size (zs.getD j 0)) (pp w.heap.size q) m = acc at *
          by_cases he : v % 4 = q % 4
          · have hbq : (v % 4 == q % 4) = true := by simp [he]
            have HN' : Hid (among (fun j => pp w.heap.size (zs.getD j 0)) (pp w.heap.size q) (m + 1) = true) := HN.out.trans (by simp [he])
            clear he HN
            go_wp2
            go_round
            case rel => exact ⟨m + 1, by omega, by go_num, by rw [HN'.out]⟩
            case measure => simp [intOf]; omega
          · have hbq : (v % 4 == q % 4) = false := by simpa using he
            have HN' : Hid (among (fun j => pp w.heap.size (zs.getD j 0)) (pp w.heap.size q) (m + 1) = acc) := HN.out.trans (by simp [he])
            clear he HN
            go_wp2
            go_round
            case rel => exact ⟨m + 1, by omega, by go_num, by rw [HN'.out]⟩
            case measure => simp [intOf]; omega
        · have : m = k := by omega
          subst this
          go_wp2
          go_ret
          exact ⟨by simp, hB2⟩

set_option maxHeartbeats 1600000 in
theorem walk_empty (a : Option Addr) (cap : Nat) (q : Int) (w : World) (hq0 : 0 ≤ q) (hq1 : q ≤ 255) :
    Calls Yba.prog 3 #[.slice a 0 cap, .int .u8 q] w fun e w' => e = .returned (.bool true) ∧ Below w.heap.size w w' := by
  have hmk : ∀ W : World, (Instr.makeSlice 25 (.int .i64 0) (.int .i64 0)).run Yba.prog W = .ok (.slice (some ⟨W.heap.size, 0, none⟩) 0 0) (W.alloc (.cells (zeros 0) 31)) := fun W => make31 0 (by omega) W
  go_enter Yba.func3, Yba.ntmps3
  go_wp2_with (go_at_call 5; refine (table_any _).mono ?_; rintro e w1 ⟨rfl, ht, hs, hb⟩)
  go_loopw [7] (fun i wr => i = .int .i64 0 ∧ Tab w.heap.size wr ∧ wr.heap.size = w.heap.size + 5 ∧ Below w.heap.size w wr) (fun _ _ => 0)
  case atStart => exact ⟨rfl, ht.below ((Below.refl w1.heap.size _).alloc (Nat.le_refl _) _) (by omega), by simp [hs], hb.alloc (by omega) _⟩
  case round =>
    obtain ⟨rfl, hT, hsz, hB⟩ := hrel
    have hg := good_pp hT q hq0
    have HT : Hid (Tab w.heap.size wr) := hT
    clear hmk ht hs hb hT
    go_wp2_with fail
    refine Calls.mono (pick_any _ _ _ hq0 hq1 (HT.out.below ((Below.refl wr.heap.size _).alloc (Nat.le_refl _) _) (by omega))) ?_
    rintro e w2 ⟨rfl, rfl⟩
    go_wp2_with fail
    refine Calls.mono (match_any _ _ (w.heap.size + 4) 0 (fun _ => none) (pp w.heap.size q) _ (by omega) ?hn ?hp ?hL ?hg ?hG) ?_
    case hn => exact box1 hsz _ _ _ _ 0
    case hp => exact box0 hsz _ _ _ _ 11
    case hL => exact fun j hj => absurd hj (by omega)
    case hg => exact hg.below (below_two _ _ _)
    case hG => exact fun j hj => absurd hj (by omega)
    rintro e w2 ⟨rfl, hb2⟩
    have hB2 : Below w.heap.size w w2 := (hB.trans ((below_two wr _ _).mono (by omega))).trans (hb2.mono (by simp; omega))
    rw [show among (fun _ => none) (pp w.heap.size q) 0 = false from rfl]
    clear hg HT hb2 hB hsz
    go_wp2
    go_loop [11, 12] (fun v i => i = .int .i64 0 ∧ v = .bool false) (fun _ _ => 0)
    case atStart => exact ⟨rfl, rfl⟩
    case round =>
      obtain ⟨rfl, rfl⟩ := hrel
      go_wp2
      go_ret
      exact ⟨rfl, hB2⟩
end Go.Proofs.Ybulkchs.lawS0161AExact
