/-  The walk of LawS0163AMatchesModel. -/
import Derived.Test.YbulkciuGot
import Derived.BigRegion
namespace Go.Proofs.Ybulkciu
open Go.RowKit Go.Maps
set_option linter.unusedVariables false

section
variable (S K Kd Hi : Nat → Int) (fin : Nat → Bool)

set_option maxRecDepth 100000 in
set_option maxHeartbeats 6400000 in
theorem walk_row (b off len cap : Nat) (jd sn : Int) (w : World) (hbig : len ≤ 1024) (hj0 : 0 ≤ jd) (hj1 : jd ≤ 255) (hs0 : 0 ≤ sn) (hs1 : sn ≤ 255)
    (hA : ∀ j, j < len → ArgAt b off j (S j) (K j) (Kd j) (Hi j) (fin j) w) (hr : ∀ j, (0 ≤ S j ∧ S j ≤ 255) ∧ (0 ≤ K j ∧ K j ≤ 255) ∧ (0 ≤ Kd j ∧ Kd j ≤ 255)) :
    Calls Yba.prog 3 #[.slice (some ⟨b, off, none⟩) len cap, .int .u8 jd, .int .u8 sn] w fun e w' => e = .returned (.bool true) ∧ Below w.heap.size w w' := by
  have hmk := make24 len hbig
  have hblt : 0 < len → b < w.heap.size := fun h => World.block_lt_of_cell? _ _ (hA 0 h).c0
  go_enter Yba.func3, Yba.ntmps3
  go_wp2
  go_loopw [27] (fun i wr => ∃ k : Nat, k ≤ len ∧ i = .int .i64 k ∧ Laid S K Kd Hi fin w len k wr) (fun i _ => len - (intOf i).toNat)
  case atStart => exact ⟨0, Nat.zero_le _, rfl, laid_start _ _ _ rfl⟩
  case round =>
    obtain ⟨k, hk, rfl, hL⟩ := hrel
    clear hmk
    by_cases hlt : k < len
    · obtain ⟨q0, q1, q2, q3, q4⟩ := (hA k hlt).below hL.below (hblt (by omega))
      obtain ⟨⟨s0, s1⟩, ⟨k0, k1⟩, ⟨d0, d1⟩⟩ := hr k
      have hsz := hL.size
      have hsn := hL.names.at (S k % 3).toNat (by omega)
      have hkn := hL.names.at (K k % 2).toNat (by omega)
      obtain ⟨x0, z0⟩ := hL.room (k * 8) (by omega)
      obtain ⟨x1, z1⟩ := hL.room (k * 8 + 1) (by omega)
      obtain ⟨x2, z2⟩ := hL.room (k * 8 + 2) (by omega)
      obtain ⟨x3, z3⟩ := hL.room (k * 8 + 3) (by omega)
      obtain ⟨x4, z4⟩ := hL.room (k * 8 + 4) (by omega)
      obtain ⟨x5, z5⟩ := hL.room (k * 8 + 5) (by omega)
      obtain ⟨x6, z6⟩ := hL.room (k * 8 + 6) (by omega)
      obtain ⟨x7, z7⟩ := hL.room (k * 8 + 7) (by omega)
      have hfz := hL.frozen
      have HL : Hid (Laid S K Kd Hi fin w len k wr) := hL
      have e0 : 0 ≤ S k % 3 := by omega
      have e1 : S k % 3 < 3 := by omega
      have e2 : 0 ≤ K k % 2 := by omega
      have e3 : K k % 2 < 3 := by omega
      have hlt' : (k : Int) < (len : Int) := by omega
      have HT : Hid (∀ o : Obj, Laid S K Kd Hi fin w len (k + 1) (put8 (wr.alloc o) (w.heap.size + 1) (k * 8) (.string (nm (S k % 3).toNat)) (.string (nm (K k % 2).toNat)) (.int .i64 (Kd k % 3)) .nilIface (.int .i64 (Hi k)) (.int .i64 0) (.int .i64 0) (.bool (fin k))).drew) := fun o => (hL.step hlt o).drew
      clear hL hA hr HL
      generalize nm (S k % 3).toNat = sx at *
      generalize nm (K k % 2).toNat = kx at *
      generalize S k = sv at *
      generalize K k = kw at *
      generalize Kd k = dv at *
      generalize Hi k = hv at *
      generalize fin k = fv at *
      go_wp2
      generalize hwq : wr.alloc (Obj.cells #[Value.int IntKind.u8 sv, Value.int IntKind.u8 kw, Value.int IntKind.u8 dv, Value.int IntKind.i64 hv, Value.bool fv] 26) = wq
      have HT' := HT.out (Obj.cells #[Value.int IntKind.u8 sv, Value.int IntKind.u8 kw, Value.int IntKind.u8 dv, Value.int IntKind.i64 hv, Value.bool fv] 26)
      rw [hwq] at HT'
      unfold put8 at HT'
      have HT2 : Hid _ := HT'
      have b0 : wq.cell? ⟨wr.heap.size, 0, none⟩ = some (.int .u8 sv) := by rw [← hwq]; exact World.cell?_alloc_new _ _ _ 0
      have b1 : wq.cell? ⟨wr.heap.size, 1, none⟩ = some (.int .u8 kw) := by rw [← hwq]; exact World.cell?_alloc_new _ _ _ 1
      have b2 : wq.cell? ⟨wr.heap.size, 2, none⟩ = some (.int .u8 dv) := by rw [← hwq]; exact World.cell?_alloc_new _ _ _ 2
      have b3 : wq.cell? ⟨wr.heap.size, 3, none⟩ = some (.int .i64 hv) := by rw [← hwq]; exact World.cell?_alloc_new _ _ _ 3
      have b4 : wq.cell? ⟨wr.heap.size, 4, none⟩ = some (.bool fv) := by rw [← hwq]; exact World.cell?_alloc_new _ _ _ 4
      have hsn' : wq.cell? ⟨w.heap.size, (sv % 3).toNat, none⟩ = some (.string sx) := by rw [← hwq, World.cell?_alloc_lt _ _ _ (by simp; omega)]; exact hsn
      have hkn' : wq.cell? ⟨w.heap.size, (kw % 2).toNat, none⟩ = some (.string kx) := by rw [← hwq, World.cell?_alloc_lt _ _ _ (by simp; omega)]; exact hkn
      have hzz : ∀ o x, wr.cell? ⟨w.heap.size + 1, o, none⟩ = some x → wq.cell? ⟨w.heap.size + 1, o, none⟩ = some x := fun o x h => by rw [← hwq, World.cell?_alloc_lt _ _ _ (by simp; omega)]; exact h
      have y0 := hzz _ _ z0
      have y1 := hzz _ _ z1
      have y2 := hzz _ _ z2
      have y3 := hzz _ _ z3
      have y4 := hzz _ _ z4
      have y5 := hzz _ _ z5
      have y6 := hzz _ _ z6
      have y7 := hzz _ _ z7
      have hfq : ∀ o, wq.frozen? ⟨w.heap.size + 1, o, none⟩ = false := fun o => by rw [← hwq, World.frozen?_alloc_old _ _ _ (by simp; omega)]; exact hfz o
      clear hwq hzz z0 z1 z2 z3 z4 z5 z6 z7 hsn hkn hfz q0 q1 q2 q3 q4 HT HT'
      generalize hN : wr.heap.size = N1 at *
      go_region
      go_wp2
      go_roundw
      case rel => exact ⟨k + 1, by omega, by go_num, HT2.out⟩
      case measure => simp [intOf]; omega
    · have : k = len := by omega
      subst this
      clear hblt hA hr hlt hk
      have hC := cls_lt S K
      have hcall := fall_got (cls S K) (knd Kd) Hi fin (jd % 2) (sn % 2) (w.heap.size + 1) k wr hbig hC hL.hist (by have := hL.size; omega)
      have HC : Hid _ := hcall
      have HB : Hid (Below w.heap.size w wr) := hL.below
      have hsz := hL.size
      clear hcall hL
      go_wp2_with (go_at_call 4; refine Calls.mono HC.out ?_; rintro e w2 ⟨ao, gc, rfl, hgot, hhist, hb2⟩)
      have HB2 : Hid (Below w.heap.size w w2) := HB.out.trans (hb2.mono (by omega))
      have HG : Hid (Got ao (Bl (cls S K) (knd Kd) Hi fin (jd % 2) (sn % 2) k) w2) := hgot
      have HH : Hid (Hist (w.heap.size + 1) k (cls S K) (knd Kd) Hi fin w2) := hhist
      clear hgot hhist hb2 HB HC hsz
      go_loopw [14, 69] (fun kk i wx => ∃ i0 n : Nat, i0 ≤ k ∧ i = .int .i64 i0 ∧ kk = .int .i64 (Bl (cls S K) (knd Kd) Hi fin (jd % 2) (sn % 2) i0).length ∧ wx = w2.drewN n) (fun _ i _ => k - (intOf i).toNat)
      case atStart => exact ⟨0, 0, Nat.zero_le _, rfl, rfl, rfl⟩
      case round =>
        obtain ⟨i0, n, hi0, rfl, rfl, rfl⟩ := hrel
        by_cases hlt : i0 < k
        · obtain ⟨q0, q1, q2, q3, q4, q5, q6, q7⟩ := HH.out i0 hlt
          by_cases hf : fin i0 = true
          · rw [hf] at q7
            go_wp2
            go_roundw
            case rel => exact ⟨i0 + 1, n, by omega, by go_num, by rw [Bl_fin _ _ _ _ _ _ hf], rfl⟩
            case measure => simp [intOf]; omega
          · have hf' : fin i0 = false := by simpa using hf
            rw [hf'] at q7
            by_cases hJ : knd Kd i0 = jd % 2
            · have hJ' : (knd Kd i0 != jd % 2) = false := by simp [bne, hJ]
              have HJ : Hid (knd Kd i0 = jd % 2) := hJ
              clear hJ hf
              go_wp2
              go_loopw [16, 17] (fun bb jj wx => ∃ m n : Nat, m ≤ i0 ∧ jj = .int .i64 m ∧ bb = .int .i64 (bv (F (cls S K) (knd Kd) Hi fin (sn % 2) m (cls S K i0))) ∧ wx = w2.drewN n) (fun _ jj _ => i0 - (intOf jj).toNat)
              case atStart => exact ⟨0, n, Nat.zero_le _, rfl, rfl, rfl⟩
              case round =>
                obtain ⟨m, n, hm, rfl, rfl, rfl⟩ := hrel
                by_cases hlt2 : m < i0
                · obtain ⟨r0, r1, r2, r3, r4, r5, r6, r7⟩ := HH.out m (by omega)
                  have hm1 : (m : Int) < (k : Int) := by omega
                  have hi1 : (i0 : Int) < (k : Int) := by omega
                  by_cases hg : fin m = true
                  · rw [hg] at r7
                    go_wp2
                    go_quiet (fail)
                    go_wp2
                    go_roundw
                    case rel => exact ⟨m + 1, _, by omega, by go_num, by rw [F_fin _ _ _ _ _ hg], rfl⟩
                    case measure => simp [intOf]; omega
                  · have hg' : fin m = false := by simpa using hg
                    rw [hg'] at r7
                    clear hg
                    by_cases hk2 : knd Kd m = sn % 2
                    · have hk' : (knd Kd m != sn % 2) = false := by simp [bne, hk2]
                      have hcm := cls_lt S K m
                      have hci := cls_lt S K i0
                      have b1 := nm_beq (cls S K m / 2) (cls S K i0 / 2) (by omega) (by omega)
                      have b2 := nm_beq (cls S K m % 2) (cls S K i0 % 2) (by omega) (by omega)
                      have HK2 : Hid (knd Kd m = sn % 2) := hk2
                      clear hk2
                      by_cases hS : cls S K m / 2 = cls S K i0 / 2
                      · rw [decide_eq_true hS] at b1
                        by_cases hT : cls S K m % 2 = cls S K i0 % 2
                        · rw [decide_eq_true hT] at b2
                          have HCC : Hid (cls S K m = cls S K i0) := by show _ = _; omega
                          clear hS hT hcm hci
                          cases hF : F (cls S K) (knd Kd) Hi fin (sn % 2) m (cls S K i0) with
                          | none =>
                            have HN : Hid (F (cls S K) (knd Kd) Hi fin (sn % 2) (m + 1) (cls S K i0) = some m) := F_new _ _ _ _ _ hg' HK2.out HCC.out (by rw [hF]; rfl)
                            rw [show bv none = -1 from rfl]
                            clear hF
                            go_wp2
                            go_quiet (fail)
                            go_wp2
                            go_quiet (fail)
                            go_wp2
                            go_roundw
                            case rel => exact ⟨m + 1, _, by omega, by go_num, by rw [HN.out]; rfl, rfl⟩
                            case measure => simp [intOf]; omega
                          | some b0 =>
                            have hb0 : b0 < m := F_lt _ _ _ _ _ _ _ _ hF
                            have p4 := (HH.out b0 (by omega)).c4
                            have hb1 : (b0 : Int) < (k : Int) := by omega
                            have hd : decide ((b0 : Int) < 0) = false := decide_eq_false (by omega)
                            rw [show bv (some b0) = (b0 : Int) from rfl]
                            by_cases hlt3 : Hi b0 < Hi m
                            · have HN : Hid (F (cls S K) (knd Kd) Hi fin (sn % 2) (m + 1) (cls S K i0) = some m) := F_new _ _ _ _ _ hg' HK2.out HCC.out (by rw [hF]; simp [beats, hlt3])
                              clear hF
                              go_wp2
                              go_quiet (fail)
                              go_wp2
                              go_quiet (fail)
                              go_wp2
                              go_roundw
                              case rel => exact ⟨m + 1, _, by omega, by go_num, by rw [HN.out]; rfl, rfl⟩
                              case measure => simp [intOf]; omega
                            · have HN : Hid (F (cls S K) (knd Kd) Hi fin (sn % 2) (m + 1) (cls S K i0) = some b0) := (F_stay _ _ _ _ _ (by rw [hF]; simp [beats]; omega)).trans hF
                              clear hF
                              go_wp2
                              go_quiet (fail)
                              go_wp2
                              go_quiet (fail)
                              go_wp2
                              go_roundw
                              case rel => exact ⟨m + 1, _, by omega, by go_num, by rw [HN.out]; rfl, rfl⟩
                              case measure => simp [intOf]; omega
                        · rw [decide_eq_false hT] at b2
                          have HN : Hid (F (cls S K) (knd Kd) Hi fin (sn % 2) (m + 1) (cls S K i0) = F (cls S K) (knd Kd) Hi fin (sn % 2) m (cls S K i0)) := F_other _ _ _ _ _ (fun e => hT (by rw [e]))
                          clear hS hT hcm hci
                          go_wp2
                          go_quiet (fail)
                          go_wp2
                          go_roundw
                          case rel => exact ⟨m + 1, _, by omega, by go_num, by rw [HN.out], rfl⟩
                          case measure => simp [intOf]; omega
                      · rw [decide_eq_false hS] at b1
                        have HN : Hid (F (cls S K) (knd Kd) Hi fin (sn % 2) (m + 1) (cls S K i0) = F (cls S K) (knd Kd) Hi fin (sn % 2) m (cls S K i0)) := F_other _ _ _ _ _ (fun e => hS (by rw [e]))
                        clear hS b2 hcm hci
                        go_wp2
                        go_quiet (fail)
                        go_wp2
                        go_roundw
                        case rel => exact ⟨m + 1, _, by omega, by go_num, by rw [HN.out], rfl⟩
                        case measure => simp [intOf]; omega
                    · have hk' : (knd Kd m != sn % 2) = true := by simpa [bne] using hk2
                      have HN : Hid (F (cls S K) (knd Kd) Hi fin (sn % 2) (m + 1) (cls S K i0) = F (cls S K) (knd Kd) Hi fin (sn % 2) m (cls S K i0)) := F_kind _ _ _ _ _ hk2
                      clear hk2
                      go_wp2
                      go_quiet (fail)
                      go_wp2
                      go_roundw
                      case rel => exact ⟨m + 1, _, by omega, by go_num, by rw [HN.out], rfl⟩
                      case measure => simp [intOf]; omega
                · have : m = i0 := by omega
                  subst this
                  have hi1 : (m : Int) < (k : Int) := by omega
                  cases hF : F (cls S K) (knd Kd) Hi fin (sn % 2) m (cls S K m) with
                  | none =>
                    have HN : Hid (Bl (cls S K) (knd Kd) Hi fin (jd % 2) (sn % 2) (m + 1) = Bl (cls S K) (knd Kd) Hi fin (jd % 2) (sn % 2) m) := Bl_stay _ _ _ _ _ _ (by rw [hF]; rfl)
                    rw [show bv none = -1 from rfl]
                    clear hF
                    go_wp2
                    go_quiet (fail)
                    go_wp2
                    go_roundw
                    case rel => exact ⟨m + 1, _, by omega, by go_num, by rw [HN.out], rfl⟩
                    case measure => simp [intOf]; omega
                  | some b0 =>
                    have hb0 : b0 < m := F_lt _ _ _ _ _ _ _ _ hF
                    have p4 := (HH.out b0 (by omega)).c4
                    have hb1 : (b0 : Int) < (k : Int) := by omega
                    have hd : decide ((0 : Int) ≤ (b0 : Int)) = true := decide_eq_true (by omega)
                    rw [show bv (some b0) = (b0 : Int) from rfl]
                    by_cases hlt3 : Hi m < Hi b0
                    · have hN := Bl_new (cls S K) (knd Kd) Hi fin (jd % 2) (sn % 2) hf' HJ.out hF hlt3
                      obtain ⟨g, hao, g0, g1⟩ := HG.out _ _ (Bl_at _ _ _ _ _ _ hlt hN)
                      have hlen : (Bl (cls S K) (knd Kd) Hi fin (jd % 2) (sn % 2) (m + 1)).length ≤ (Bl (cls S K) (knd Kd) Hi fin (jd % 2) (sn % 2) k).length := Bl_mono _ _ _ _ _ _ (by omega)
                      have hn1 : (Bl (cls S K) (knd Kd) Hi fin (jd % 2) (sn % 2) (m + 1)).length = (Bl (cls S K) (knd Kd) Hi fin (jd % 2) (sn % 2) m).length + 1 := by rw [hN]; simp
                      have hle := Bl_le (cls S K) (knd Kd) Hi fin (jd % 2) (sn % 2) k
                      have hl1 : ((Bl (cls S K) (knd Kd) Hi fin (jd % 2) (sn % 2) m).length : Int) < ((Bl (cls S K) (knd Kd) Hi fin (jd % 2) (sn % 2) k).length : Int) := by omega
                      have HN1 : Hid _ := hn1
                      subst hao
                      clear hF hN hn1 hlen HG
                      go_wp2
                      go_quiet (fail)
                      go_wp2
                      go_roundw
                      case rel => exact ⟨m + 1, _, by omega, by go_num, by rw [HN1.out]; go_num, rfl⟩
                      case measure => simp [intOf]; omega
                    · have HN : Hid (Bl (cls S K) (knd Kd) Hi fin (jd % 2) (sn % 2) (m + 1) = Bl (cls S K) (knd Kd) Hi fin (jd % 2) (sn % 2) m) := Bl_stay _ _ _ _ _ _ (by rw [hF]; simp [behind]; omega)
                      clear hF
                      go_wp2
                      go_quiet (fail)
                      go_wp2
                      go_roundw
                      case rel => exact ⟨m + 1, _, by omega, by go_num, by rw [HN.out], rfl⟩
                      case measure => simp [intOf]; omega
            · have hJ' : (knd Kd i0 != jd % 2) = true := by simpa [bne] using hJ
              go_wp2
              go_roundw
              case rel => exact ⟨i0 + 1, n, by omega, by go_num, by rw [Bl_kind _ _ _ _ _ _ hJ], rfl⟩
              case measure => simp [intOf]; omega
        · have : i0 = k := by omega
          subst this
          go_wp2
          go_ret
          exact ⟨by simp, below_drewN HB2.out _⟩
end
end Go.Proofs.Ybulkciu
