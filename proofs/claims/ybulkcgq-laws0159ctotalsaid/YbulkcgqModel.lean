/-  The contract of the plain model, zzs0159cmodel: it folds 'step' over the values. -/
import Derived.Test.YbulkcgqAdd
namespace Go.Proofs.Ybulkcgq
open Go.RowKit

theorem take_snoc (zs : List Int) (k : Nat) (h : k < zs.length) : zs.take (k + 1) = zs.take k ++ [zs.getD k 0] := by
  rw [List.take_succ_eq_append_getElem h]; simp [List.getD, List.getElem?_eq_getElem h]

set_option maxHeartbeats 800000 in
theorem model_any (b off len cap : Nat) (zs : List Int) (hi lo : Int) (w : World) (hh : I64 hi) (hl : U64 lo) (hz : len ≤ zs.length) (hbig : len ≤ 1024)
    (hc : ∀ j, j < zs.length → w.cell? ⟨b, off + j, none⟩ = some (.int .i64 (zs.getD j 0))) (hwf : ∀ j, j < zs.length → I64 (zs.getD j 0)) :
    Calls Yba.prog 6 #[.int .i64 hi, .int .u64 lo, .slice (some ⟨b, off, none⟩) len cap] w fun e w' => e = .returned (.tuple #[.int .i64 (run hi lo (zs.take len)).1, .int .u64 (run hi lo (zs.take len)).2]) ∧ w' = w := by
  go_enter Yba.func6, Yba.ntmps6
  go_wp2
  go_loop [0, 1, 8] (fun h l i => ∃ k : Nat, k ≤ len ∧ i = .int .i64 k ∧ h = .int .i64 (run hi lo (zs.take k)).1 ∧ l = .int .u64 (run hi lo (zs.take k)).2) (fun _ _ i => len - (intOf i).toNat)
  case atStart => exact ⟨0, Nat.zero_le _, rfl, rfl, rfl⟩
  case round =>
    obtain ⟨k, hk, rfl, rfl, rfl⟩ := hrel
    obtain ⟨ho, hu⟩ := run_ok hi lo hh hl (zs.take k)
    by_cases hlt : k < len
    · have hcell := hc k (by omega)
      have hv := hwf k (by omega)
      have hsn := run_snoc hi lo (zs.take k) (zs.getD k 0)
      rw [← take_snoc zs k (by omega)] at hsn
      have HS : Hid (run hi lo (zs.take (k + 1)) = (nhi (run hi lo (zs.take k)).1 (run hi lo (zs.take k)).2 (zs.getD k 0), nlo (run hi lo (zs.take k)).2 (zs.getD k 0))) := hsn
      clear hsn
      generalize zs.getD k 0 = v at *
      generalize (run hi lo (zs.take k)).1 = H at *
      generalize (run hi lo (zs.take k)).2 = L at *
      have hlo := lo_model L v
      clear hc hwf
      by_cases hn : v < 0
      · by_cases hq : nlo L v < L
        · have HE : Hid (wrap64 (wrap64 (H - 1) + 1) = nhi H L v) := hi_neg_lt H L v hu hv hn hq
          clear hu hv ho
          go_wp2
          go_round
          case rel => exact ⟨k + 1, by omega, by go_num, by rw [HS.out, HE.out], by rw [HS.out]⟩
          case measure => simp [intOf]; omega
        · have HE : Hid (wrap64 (H - 1) = nhi H L v) := hi_neg_ge H L v hu hv hn (by omega)
          clear hu hv ho
          go_wp2
          go_round
          case rel => exact ⟨k + 1, by omega, by go_num, by rw [HS.out, HE.out], by rw [HS.out]⟩
          case measure => simp [intOf]; omega
      · by_cases hq : nlo L v < L
        · have HE : Hid (wrap64 (H + 1) = nhi H L v) := hi_pos_lt H L v hu hv (by omega) hq
          clear hu hv ho
          go_wp2
          go_round
          case rel => exact ⟨k + 1, by omega, by go_num, by rw [HS.out, HE.out], by rw [HS.out]⟩
          case measure => simp [intOf]; omega
        · have HE : Hid (H = nhi H L v) := hi_pos_ge H L v hu ho hv (by omega) (by omega)
          clear hu hv ho
          go_wp2
          go_round
          case rel => exact ⟨k + 1, by omega, by go_num, by rw [HS.out, ← HE.out], by rw [HS.out]⟩
          case measure => simp [intOf]; omega
    · have : k = len := by omega
      subst this
      go_wp2
      go_ret2
      exact ⟨rfl, rfl⟩

theorem model_empty (a : Option Addr) (cap : Nat) (hi lo : Int) (w : World) :
    Calls Yba.prog 6 #[.int .i64 hi, .int .u64 lo, .slice a 0 cap] w fun e w' => e = .returned (.tuple #[.int .i64 hi, .int .u64 lo]) ∧ w' = w := by
  go_enter Yba.func6, Yba.ntmps6
  go_wp2
  go_loop [0, 1, 8] (fun h l i => i = .int .i64 0 ∧ h = .int .i64 hi ∧ l = .int .u64 lo) (fun _ _ _ => 0)
  case atStart => exact ⟨rfl, rfl, rfl⟩
  case round =>
    obtain ⟨rfl, rfl, rfl⟩ := hrel
    go_wp2
    go_ret2
    exact ⟨rfl, rfl⟩

/-! The world behind one Add. -/
theorem added_hi {w : World} {b : Nat} {u : Value} (hi lo : Int) (h0 : w.cell? ⟨b, 0, none⟩ = some u) : (added w b hi lo).cell? ⟨b, 0, none⟩ = some (.int .i64 hi) := by
  unfold added
  refine World.cell?_setCell_same _ _ _ (u := u) ?_
  rw [World.cell?_setCell_other _ _ _ _ (by simp)]; exact h0
theorem added_lo {w : World} {b : Nat} {u : Value} (hi lo : Int) (h1 : w.cell? ⟨b, 1, none⟩ = some u) : (added w b hi lo).cell? ⟨b, 1, none⟩ = some (.int .u64 lo) := by
  unfold added
  rw [World.cell?_setCell_other _ _ _ _ (by simp)]
  exact World.cell?_setCell_same _ _ _ h1
theorem added_frozen (w : World) (b : Nat) (hi lo : Int) (x : Addr) : (added w b hi lo).frozen? x = w.frozen? x := by unfold added; simp
theorem added_below {w0 w : World} {B b : Nat} (h : Below B w0 w) (hB : B ≤ b) (hi lo : Int) : Below B w0 (added w b hi lo) := (h.setCell hB _).setCell hB _
end Go.Proofs.Ybulkcgq
