/-  The walk of LawS0163AMatchesModel at a slice without an element. -/
import Derived.Test.YbulkciuGot
namespace Go.Proofs.Ybulkciu
open Go.RowKit Go.Maps
set_option linter.unusedVariables false

set_option maxRecDepth 100000 in
set_option maxHeartbeats 3200000 in
theorem walk_empty (a : Option Addr) (cap : Nat) (jd sn : Int) (w : World) (hj0 : 0 ≤ jd) (hj1 : jd ≤ 255) (hs0 : 0 ≤ sn) (hs1 : sn ≤ 255) :
    Calls Yba.prog 3 #[.slice a 0 cap, .int .u8 jd, .int .u8 sn] w fun e w' => e = .returned (.bool true) ∧ Below w.heap.size w w' := by
  have hmk : ∀ W : World, (Instr.makeSlice 24 (.int .i64 0) (.int .i64 0)).run Yba.prog W = .ok (.slice (some ⟨W.heap.size, 0, none⟩) 0 0) (W.alloc (.cells (zeros 0) 29)) := fun W => make24 0 (by omega) W
  go_enter Yba.func3, Yba.ntmps3
  go_wp2
  go_loopw [27] (fun i wr => i = .int .i64 0 ∧ w.heap.size + 2 ≤ wr.heap.size ∧ Below w.heap.size w wr) (fun _ _ => 0)
  case atStart => exact ⟨rfl, by simp, ((Below.refl _ _).alloc (Nat.le_refl _) _).alloc (by simp) _⟩
  case round =>
    obtain ⟨rfl, hsz, hb⟩ := hrel
    have hcall := fall_got (fun _ => 0) (fun _ => 0) (fun _ => 0) (fun _ => false) (jd % 2) (sn % 2) (w.heap.size + 1) 0 wr (by omega) (fun _ => by omega) (fun j hj => by omega) (by omega)
    have HC : Hid _ := hcall
    have HB : Hid (Below w.heap.size w wr) := hb
    clear hcall hmk hb
    go_wp2_with (go_at_call 4; refine Calls.mono HC.out ?_; rintro e w2 ⟨ao, gc, rfl, hgot, hhist, hb2⟩)
    have HB2 : Hid (Below w.heap.size w w2) := HB.out.trans (hb2.mono (by omega))
    clear hgot hhist hb2 HB HC hsz
    go_loopw [14, 69] (fun kk i wx => i = .int .i64 0 ∧ kk = .int .i64 0 ∧ wx = w2) (fun _ _ _ => 0)
    case atStart => exact ⟨rfl, rfl, rfl⟩
    case round =>
      obtain ⟨rfl, rfl, rfl⟩ := hrel
      go_wp2
      go_ret
      exact ⟨rfl, HB2.out⟩
end Go.Proofs.Ybulkciu
