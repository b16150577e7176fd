/-  The walk of LawS0159CModel: the sum in the struct is the fold; the model's is the same fold. -/
import Derived.Test.YbulkcgqModel
namespace Go.Proofs.Ybulkcgq.lawS0159CModel
open Go.RowKit Go.Proofs.Ybulkcgq

set_option maxHeartbeats 800000 in
theorem walk_empty (hi lo : Int) (a : Option Addr) (cap : Nat) (w : World) :
    Calls Yba.prog 3 #[.int .i64 hi, .int .u64 lo, .slice a 0 cap] w fun e w' => e = .returned (.bool true) ∧ Below w.heap.size w w' := by
  go_enter Yba.func3, Yba.ntmps3
  go_wp2
  go_loop [8] (fun i => i = .int .i64 0) (fun _ => 0)
  case atStart => rfl
  case round =>
    obtain rfl := hrel
    go_wp2_with (go_at_call 6; refine (model_empty _ _ _ _ _).mono ?_; rintro e w' ⟨rfl, rfl⟩)
    go_ret
    exact ⟨rfl, (Below.refl _ _).alloc (Nat.le_refl _) _⟩

set_option maxHeartbeats 800000 in
theorem walk_row (hi lo : Int) (b off len cap : Nat) (zs : List Int) (w : World) (hh : I64 hi) (hl : U64 lo) (hz : len ≤ zs.length) (hbig : len ≤ 1024)
    (hc : ∀ j, j < zs.length → w.cell? ⟨b, off + j, none⟩ = some (.int .i64 (zs.getD j 0))) (hwf : ∀ j, j < zs.length → I64 (zs.getD j 0)) :
    Calls Yba.prog 3 #[.int .i64 hi, .int .u64 lo, .slice (some ⟨b, off, none⟩) len cap] w fun e w' => e = .returned (.bool true) ∧ Below w.heap.size w w' := by
  have hbB : 0 < len → b < w.heap.size := fun h => World.block_lt_of_cell? _ _ (hc 0 (by omega))
  go_enter Yba.func3, Yba.ntmps3
  go_wp2
  go_loopw [8] (fun i wr => ∃ k : Nat, k ≤ len ∧ i = .int .i64 k ∧ wr.cell? ⟨w.heap.size, 0, none⟩ = some (.int .i64 (run hi lo (zs.take k)).1) ∧ wr.cell? ⟨w.heap.size, 1, none⟩ = some (.int .u64 (run hi lo (zs.take k)).2) ∧
      wr.frozen? ⟨w.heap.size, 0, none⟩ = false ∧ wr.frozen? ⟨w.heap.size, 1, none⟩ = false ∧ Below w.heap.size w wr)
    (fun i _ => len - (intOf i).toNat)
  case atStart => exact ⟨0, Nat.zero_le _, rfl, by simp [run], by simp [run], by simp, by simp, (Below.refl _ _).alloc (Nat.le_refl _) _⟩
  case round =>
    obtain ⟨k, hk, rfl, c0, c1, f0, f1, hb⟩ := hrel
    obtain ⟨ho, hu⟩ := run_ok hi lo hh hl (zs.take k)
    by_cases hlt : k < len
    · have hcell : wr.cell? ⟨b, off + k, none⟩ = some (.int .i64 (zs.getD k 0)) := (hb.cell (hbB (by omega))).trans (hc k (by omega))
      have hsn := run_snoc hi lo (zs.take k) (zs.getD k 0)
      rw [← take_snoc zs k (by omega)] at hsn
      have HS : Hid (run hi lo (zs.take (k + 1)) = (nhi (run hi lo (zs.take k)).1 (run hi lo (zs.take k)).2 (zs.getD k 0), nlo (run hi lo (zs.take k)).2 (zs.getD k 0))) := hsn
      clear hsn
      generalize zs.getD k 0 = v at *
      generalize (run hi lo (zs.take k)).1 = H at *
      generalize (run hi lo (zs.take k)).2 = L at *
      have r0 := added_hi (nhi H L v) (nlo L v) c0
      have r1 := added_lo (nhi H L v) (nlo L v) c1
      have r2 := (added_frozen wr w.heap.size (nhi H L v) (nlo L v) ⟨w.heap.size, 0, none⟩).trans f0
      have r3 := (added_frozen wr w.heap.size (nhi H L v) (nlo L v) ⟨w.heap.size, 1, none⟩).trans f1
      have r4 := added_below hb (Nat.le_refl _) (nhi H L v) (nlo L v)
      have hc5 := add5 w.heap.size H L v wr c0 c1 f0 f1 hu.1
      have HC : Hid _ := hc5
      have HR := And.intro r0 (And.intro r1 (And.intro r2 (And.intro r3 r4)))
      have HR' : Hid _ := HR
      clear hc hwf hh hl hu ho r0 r1 r2 r3 r4 HR hc5
      go_wp2_with (go_at_call 5; refine Calls.mono HC.out ?_; rintro e w1 ⟨rfl, rfl⟩)
      go_roundw
      case rel => exact ⟨k + 1, by omega, by go_num, by rw [HS.out]; exact HR'.out.1, by rw [HS.out]; exact HR'.out.2.1, HR'.out.2.2.1, HR'.out.2.2.2.1, HR'.out.2.2.2.2⟩
      case measure => simp [intOf]; omega
    · have : k = len := by omega
      subst this
      have hc6 := model_any b off k cap zs hi lo wr hh hl hz hbig (fun j hj => (hb.cell (World.block_lt_of_cell? _ _ (hc j hj))).trans (hc j hj)) hwf
      have HC : Hid _ := hc6
      clear hc hwf hh hl hc6
      go_wp2_with (go_at_call 6; refine Calls.mono HC.out ?_; rintro e w' ⟨rfl, rfl⟩)
      go_ret
      exact ⟨rfl, hb⟩
end Go.Proofs.Ybulkcgq.lawS0159CModel
