/-  The contract of fallBehind. -/
import Derived.Test.YbulkciuParts
import Derived.Deep.QuietTactic
import Derived.BigQuiet
namespace Go.Proofs.Ybulkciu
open Go.RowKit Go.Maps
set_option linter.unusedVariables false

/-- A look-up whose answer is known. -/
theorem lookup_known {P : Program} (w : World) {ops : Array Oper} {rest : List Oper} {o : Oper} {a : Act} {Q : Exit → Act → World → Prop}
    (hg : o.guard = none) (m x : Operand) (t : TypeId) (hop : o.op = Op.lookup t m x true)
    (k e : TypeId) (q : IntKind) (K : Keyed P k) (ht : P.underlying t = some (.map k e)) (he : P.underlying e = some (.int q)) (hz : (zeroValue e).run P w = .ok (.int q 0) w) (b n : Nat) (D : DataW Unit)
    (hm : a.eval m = .map (some b)) (hown : w.ownsMap P k (plainElem P e) b n D) (key : Value) (kl : Lit) (hx : a.eval x = key) (hkey : keyOf P k key = some kl)
    (c : Int) (ok : Bool) (hc : D.atKey kl (.lit (.int q 0)) = .lit (.int q c)) (hok : Maps.has D kl = ok)
    (hK : wpList P ops Q rest (a.put o.dst (.tuple #[.int q c, .bool ok])) w) :
    wpList P ops Q (o :: rest) a w :=
  wpList_lookup_own_ok_int w hg m x t hop k e q K ht he hz b n D hm hown key kl hx hkey (fun c' h _ => by
    rw [hc] at h
    injection h with h
    injection h with _ h
    subst h
    rw [hok]
    exact hK)

section
variable (C : Nat → Nat) (kd hi : Nat → Int) (fin : Nat → Bool) (jk sk : Int)

/-- What the loop of fallBehind keeps. -/
structure Keeps (w : World) (len k : Nat) (D : DataW Unit) (v : Value) (wr : World) : Prop where
  map : wr.ownsMap Yba.prog 37 (plainElem Yba.prog 3) w.heap.size k D
  agree : Agree D (F C kd hi fin sk k)
  row : wr.ownsRow (w.heap.size + 1) 33 2 v (Bl C kd hi fin jk sk k).length (cellsB (Bl C kd hi fin jk sk k))
  below : Below w.heap.size w wr
  size : w.heap.size + 1 ≤ wr.heap.size

variable {C kd hi fin jk sk}
theorem Keeps.alloc {w wr : World} {len k : Nat} {D : DataW Unit} {v : Value} (h : Keeps C kd hi fin jk sk w len k D v wr) (o : Obj) : Keeps C kd hi fin jk sk w len k D v (wr.alloc o) :=
  ⟨h.map.alloc o, h.agree, h.row.alloc o, h.below.alloc h.below.size o, by have := h.size; simp; omega⟩
theorem Keeps.drewN {w wr : World} {len k : Nat} {D : DataW Unit} {v : Value} (h : Keeps C kd hi fin jk sk w len k D v wr) (n : Nat) : Keeps C kd hi fin jk sk w len k D v (wr.drewN n) :=
  ⟨h.map, h.agree, h.row, below_drewN h.below n, h.size⟩
/-- A round at which nothing is found and the holders stay. -/
theorem Keeps.idle {w wr : World} {len k : Nat} {D : DataW Unit} {v : Value} (h : Keeps C kd hi fin jk sk w len k D v wr) (e : Bl C kd hi fin jk sk (k + 1) = Bl C kd hi fin jk sk k) (e' : ∀ c, F C kd hi fin sk (k + 1) c = F C kd hi fin sk k c) : Keeps C kd hi fin jk sk w len (k + 1) D v wr :=
  ⟨h.map.mono (Nat.le_succ _), h.agree.same (fun c _ => e' c), by rw [e]; exact h.row, h.below, h.size⟩
theorem Keeps.apart {w wr : World} {len k : Nat} {D : DataW Unit} {v : Value} (h : Keeps C kd hi fin jk sk w len k D v wr) {b : Nat} (hb : b ≤ w.heap.size ∨ wr.heap.size ≤ b) : v.ownBlock ≠ some b := fun e => by
  have := h.row.lt b e
  omega
/-- A round at which the map takes a new holder. -/
theorem Keeps.update {w wr w1 : World} {len k : Nat} {D : DataW Unit} {v : Value} (h : Keeps C kd hi fin jk sk w len k D v wr) (hC : ∀ j, C j < 6)
    (hown : w1.ownsMap Yba.prog 37 (plainElem Yba.prog 3) w.heap.size (k + 1) (D.put (kl (C k)) (.lit (.int .i64 (k : Nat))))) (hg : wr.grownBy w1 (some w.heap.size))
    (e : Bl C kd hi fin jk sk (k + 1) = Bl C kd hi fin jk sk k) (h0 : fin k = false) (h1 : kd k = sk) (h3 : beats hi (F C kd hi fin sk k (C k)) k = true) :
    Keeps C kd hi fin jk sk w len (k + 1) (D.put (kl (C k)) (.lit (.int .i64 (k : Nat)))) v w1 :=
  ⟨hown, h.agree.put h.map.isMap (hC k) (F_new C kd hi fin sk h0 h1 rfl h3) (fun c' _ x => F_other C kd hi fin sk (fun y => x y.symm)), by rw [e]; exact h.row.kept hg (Or.inr (h.apart (.inl (Nat.le_refl _)))),
    h.below.grown hg h.below.size (fun j hj => by cases hj; exact Nat.le_refl _), by have := h.size; have := hg.size; omega⟩
/-- A round at which something is found, and the holders stay. -/
theorem Keeps.found {w wr w1 : World} {len k j : Nat} {D : DataW Unit} {v v' : Value} (h : Keeps C kd hi fin jk sk w len k D v wr)
    (hown : w1.ownsRow (w.heap.size + 1) 33 2 v' ((Bl C kd hi fin jk sk k).length + 1) (cellsB (Bl C kd hi fin jk sk k) ++ [.int .i64 (k : Nat), .int .i64 (j : Nat)])) (hg : wr.grownBy w1 v.ownBlock)
    (e : Bl C kd hi fin jk sk (k + 1) = Bl C kd hi fin jk sk k ++ [(k, j)]) (e' : ∀ c, F C kd hi fin sk (k + 1) c = F C kd hi fin sk k c) :
    Keeps C kd hi fin jk sk w len (k + 1) D v' w1 :=
  ⟨(h.map.kept hg (fun x => h.apart (.inl (Nat.le_refl _)) x.symm)).mono (Nat.le_succ _), h.agree.same (fun c _ => e' c), by rw [e, cellsB_snoc]; simpa using hown,
    h.below.grown hg h.below.size (fun j hj => Nat.le_trans (Nat.le_succ _) (h.row.lt j hj).1), by have := h.size; have := hg.size; omega⟩
theorem grown_cell {w w1 : World} {row : Option Nat} (hg : w.grownBy w1 row) {a : Addr} {v : Value} (h : w.cell? a = some v) (hne : row ≠ some a.block) : w1.cell? a = some v := by
  rw [World.cell?_of_block (hg.block a.block (World.block_lt_of_cell? _ _ h) (fun e => hne e.symm))]; exact h
theorem two_at {W : World} {n : Nat} (h : W.heap.size = n) (a b : Value) (t : TypeId) : ∀ j u, [a, b][j]? = some u → (W.alloc (.cells #[a, b] t)).cell? ((⟨n, 0, none⟩ : Addr).add j) = some u := by
  subst h; exact cell_two_new W a b t
theorem two_one (a b : Int) : ∀ u ∈ [Value.int .i64 a, Value.int .i64 b], u.oneCell' = true := by
  intro u hu
  simp at hu
  rcases hu with rfl | rfl <;> rfl
theorem cell_first (wr : World) (cs : Array Value) (t : TypeId) (o1 o2 : Obj) (n i : Nat) : ((((wr.alloc (.cells cs t)).alloc o1).drewN n).alloc o2).cell? ⟨wr.heap.size, i, none⟩ = cs[i]? := by
  rw [World.cell?_alloc_lt _ _ _ (by simp; omega)]
  show ((wr.alloc (.cells cs t)).alloc o1).cell? _ = _
  rw [World.cell?_alloc_lt _ _ _ (by simp)]
  exact World.cell?_alloc_new wr cs t i
theorem cell_old {wr : World} {a : Addr} {v : Value} (h : wr.cell? a = some v) (o0 o1 o2 : Obj) (n : Nat) : ((((wr.alloc o0).alloc o1).drewN n).alloc o2).cell? a = some v := by
  have hb := World.block_lt_of_cell? _ _ h
  rw [World.cell?_alloc_lt _ _ _ (by simp; omega)]
  show ((wr.alloc o0).alloc o1).cell? _ = _
  rw [World.cell?_alloc_lt _ _ _ (by simp; omega), World.cell?_alloc_lt _ _ _ hb]
  exact h
variable (C kd hi fin jk sk)

set_option maxHeartbeats 6400000 in
theorem fall_any (hb len : Nat) (w : World) (hlen : len ≤ 1024) (hC : ∀ j, C j < 6) (hH : Hist hb len C kd hi fin w) (hbl : hb < w.heap.size) :
    Calls Yba.prog 4 #[.slice (some ⟨hb, 0, none⟩) len len, .int .i64 jk, .int .i64 sk] w fun e w' =>
      ∃ v, e = .returned v ∧ w'.ownsRow (w.heap.size + 1) 33 2 v (Bl C kd hi fin jk sk len).length (cellsB (Bl C kd hi fin jk sk len)) ∧ Below w.heap.size w w' := by
  have hmm := @run_makeMap Yba.prog
  go_enter Yba.func4, Yba.ntmps4
  go_wp2
  go_loopw [8, 17] (fun v i wr => ∃ (k : Nat) (D : DataW Unit), k ≤ len ∧ i = .int .i64 k ∧ Keeps C kd hi fin jk sk w len k D v wr) (fun _ i _ => len - (intOf i).toNat)
  case atStart => exact ⟨0, .map [], Nat.zero_le _, rfl, World.ownsMap_made _ _ _ _, agree_start _ (fun _ => rfl), World.ownsRow_nil _ _ _ _, (Below.refl _ _).alloc (Nat.le_refl _) _, by simp⟩
  case round =>
    obtain ⟨k, D, hk, rfl, hkeep⟩ := hrel
    clear hmm
    by_cases hlt : k < len
    · obtain ⟨q0, q1, q2, q3, q4, q5, q6, q7⟩ := (hH k hlt).below hkeep.below hbl
      have HK : Hid (Keeps C kd hi fin jk sk w len k D u8 wr) := hkeep
      have hws := hkeep.below.size
      clear hkeep
      by_cases hf : fin k = true
      · rw [hf] at q7
        go_wp2
        go_roundw
        case rel => exact ⟨k + 1, D, by omega, by go_num, (HK.out.alloc _).idle (Bl_fin C kd hi fin jk sk hf) (fun c => F_fin C kd hi fin sk hf)⟩
        case measure => simp [intOf]; omega
      · have hf' : fin k = false := by simpa using hf
        rw [hf'] at q7
        have hkey := keyOf_kv (C k) (hC k)
        unfold kv at hkey
        cases hF : F C kd hi fin sk k (C k) with
        | none =>
          have hh : Maps.has D (kl (C k)) = false := by have := (HK.out.agree (C k) (hC k)).1; rw [hF] at this; simpa using this
          have hat := atKey_of_not_has hh (.lit (.int .i64 0))
          have HF : Hid (F C kd hi fin sk k (C k) = none) := hF
          clear hF
          have M := HK.out.map
          have eB := Bl_stay C kd hi fin jk sk (k := k) (by rw [HF.out]; rfl)
          have EB : Hid _ := eB
          clear eB
          have hJJ : (kd k == jk) = true ∨ (kd k == jk) = false := by cases (kd k == jk) <;> simp
          rcases hJJ with hJ | hJ
          all_goals
            by_cases hK : kd k = sk
            · have hK' : (kd k == sk) = true := by simpa using hK
              have HE : Hid (kd k = sk) := hK
              clear hK
              go_wp2_with (at_lookup; refine lookup_known _ rfl _ _ 35 rfl 37 3 .i64 law37 Yba.underlying35 Yba.underlying3 (zero3 _) w.heap.size k D rfl ((M.alloc _).alloc _) _ _ rfl hkey 0 false hat hh ?_)
              go_quiet (fail)
              go_wp2
              go_quiet (fail)
              go_wp2_with (at_mapUpdate; refine wpList_mapUpdate_own _ rfl _ _ _ 35 rfl 37 3 law37 Yba.underlying35 (plainElem (H := Unit) Yba.prog 3) w.heap.size k D rfl (by exact (M.alloc _).alloc _) (by unfold maxLen; omega) _ _ _ rfl rfl hkey _ [] (plainElem_int Yba.underlying3 (WalkArith.wf_i64 (by omega))) ?_; intro w1 hown1 hgrow1)
              go_roundw
              case rel => exact ⟨k + 1, _, by omega, by go_num, (((HK.out.alloc _).alloc _).drewN _).update hC hown1 hgrow1 EB.out hf' HE.out (by rw [HF.out]; rfl)⟩
              case measure => simp [intOf]; omega
            · have hK' : (kd k == sk) = false := by simpa using hK
              go_wp2_with (at_lookup; refine lookup_known _ rfl _ _ 35 rfl 37 3 .i64 law37 Yba.underlying35 Yba.underlying3 (zero3 _) w.heap.size k D rfl ((M.alloc _).alloc _) _ _ rfl hkey 0 false hat hh ?_)
              go_quiet (fail)
              go_wp2
              go_quiet (fail)
              go_wp2
              go_roundw
              case rel => exact ⟨k + 1, D, by omega, by go_num, (((HK.out.alloc _).alloc _).drewN _).idle EB.out (fun c => F_kind C kd hi fin sk hK)⟩
              case measure => simp [intOf]; omega
        | some j =>
          have hjk : j < k := F_lt C kd hi fin sk k (C k) j hF
          have hj1 : (j : Int) < (len : Int) := by omega
          have hh : Maps.has D (kl (C k)) = true := by have := (HK.out.agree (C k) (hC k)).1; rw [hF] at this; simpa using this
          have hat := (HK.out.agree (C k) (hC k)).2 j hF
          have HF : Hid (F C kd hi fin sk k (C k) = some j) := hF
          have p4 := ((hH j (by omega)).below HK.out.below hbl).c4
          have hbw : hb < wr.heap.size := by omega
          clear hF
          have M := HK.out.map
          have R := HK.out.row
          have hKK : (kd k == sk) = true ∨ (kd k == sk) = false := by cases (kd k == sk) <;> simp
          by_cases hJ : kd k = jk ∧ hi k < hi j
          · -- it falls behind
            obtain ⟨hJ1, hJ2⟩ := hJ
            have hJ' : (kd k == jk) = true := by simpa using hJ1
            have HB : Hid (Bl C kd hi fin jk sk (k + 1) = Bl C kd hi fin jk sk k ++ [(k, j)]) := Bl_new C kd hi fin jk sk hf' hJ1 HF.out hJ2
            have HS : Hid (∀ c, F C kd hi fin sk (k + 1) c = F C kd hi fin sk k c) := fun c => by
              by_cases x : C k = c
              · subst x; exact F_stay C kd hi fin sk (by rw [HF.out]; simp [beats]; omega)
              · exact F_other C kd hi fin sk x
            have hle := Bl_le C kd hi fin jk sk k
            obtain ⟨i0, hi0, hz0, hz1, hz2⟩ := info_parts info33
            clear hJ1
            rcases hKK with hK | hK
            all_goals
              go_wp2_with (at_lookup; refine lookup_known _ rfl _ _ 35 rfl 37 3 .i64 law37 Yba.underlying35 Yba.underlying3 (zero3 _) w.heap.size k D rfl ((M.alloc _).alloc _) _ _ rfl hkey (j : Int) true hat hh ?_)
              go_quiet (fail)
              go_wp2_with (at_builtin; refine wpList_append_own _ rfl _ _ 30 rfl (w.heap.size + 1) 33 i0 (.agg #[.int .i64 0, .int .i64 0]) 2 16 Yba.underlying30 hi0 hz0 hz1 hz2 rfl (by decide) _ _ _ rfl (by exact ((R.alloc _).alloc _).alloc _) ⟨wr.heap.size + 1 + 1, 0, none⟩ 1 1 [.int .i64 (k : Int), .int .i64 (j : Int)] rfl rfl (two_at (by simp) _ _ _) (two_one _ _) (by unfold maxLen; omega) (by omega) (by simp; omega) ?_; intro v' w1 hown1 hgrow1 hnil1)
              have e2 := grown_cell hgrow1 (a := ⟨wr.heap.size, 2, none⟩) (cell_first wr _ _ _ _ _ 2) (HK.out.apart (.inr (Nat.le_refl _)))
              have e4 := grown_cell hgrow1 (a := ⟨wr.heap.size, 4, none⟩) (cell_first wr _ _ _ _ _ 4) (HK.out.apart (.inr (Nat.le_refl _)))
              have e5 := grown_cell hgrow1 (cell_old p4 _ _ _ _) (HK.out.apart (.inl (by exact Nat.le_of_lt hbl)))
              have HR : Hid _ := (((((HK.out.alloc _).alloc _).drewN _).alloc _).found hown1 hgrow1 HB.out HS.out)
              clear hown1 hgrow1 hnil1
              go_quiet (fail)
              go_wp2
              go_roundw
              case rel => exact ⟨k + 1, D, by omega, by go_num, Keeps.drewN HR.out _⟩
              case measure => simp [intOf]; omega
          · have eB : Bl C kd hi fin jk sk (k + 1) = Bl C kd hi fin jk sk k := by
              by_cases x : kd k = jk
              · exact Bl_stay C kd hi fin jk sk (by rw [HF.out]; simp [behind]; omega)
              · exact Bl_kind C kd hi fin jk sk x
            have EB : Hid _ := eB
            clear eB
            have hJJ : (kd k == jk) = false ∨ ((kd k == jk) = true ∧ hi j ≤ hi k) := by
              by_cases x : kd k = jk
              · exact .inr ⟨by simpa using x, by omega⟩
              · exact .inl (by simpa using x)
            clear hJ hKK
            by_cases hK : kd k = sk
            · have hK' : (kd k == sk) = true := by simpa using hK
              by_cases hB : hi j < hi k
              · have HE : Hid (kd k = sk) := hK
                have HT : Hid (beats hi (F C kd hi fin sk k (C k)) k = true) := by show _ = _; rw [HF.out]; simp [beats, hB]
                clear hK
                rcases hJJ with hJ | ⟨hJ, hJ2⟩
                all_goals
                  go_wp2_with (at_lookup; refine lookup_known _ rfl _ _ 35 rfl 37 3 .i64 law37 Yba.underlying35 Yba.underlying3 (zero3 _) w.heap.size k D rfl ((M.alloc _).alloc _) _ _ rfl hkey (j : Int) true hat hh ?_)
                  go_quiet (fail)
                  go_wp2
                  go_quiet (fail)
                  go_wp2_with (at_mapUpdate; refine wpList_mapUpdate_own _ rfl _ _ _ 35 rfl 37 3 law37 Yba.underlying35 (plainElem (H := Unit) Yba.prog 3) w.heap.size k D rfl (by exact (M.alloc _).alloc _) (by unfold maxLen; omega) _ _ _ rfl rfl hkey _ [] (plainElem_int Yba.underlying3 (WalkArith.wf_i64 (by omega))) ?_; intro w1 hown1 hgrow1)
                  go_roundw
                  case rel => exact ⟨k + 1, _, by omega, by go_num, (((HK.out.alloc _).alloc _).drewN _).update hC hown1 hgrow1 EB.out hf' HE.out HT.out⟩
                  case measure => simp [intOf]; omega
              · have HS : Hid (∀ c, F C kd hi fin sk (k + 1) c = F C kd hi fin sk k c) := fun c => by
                  by_cases x : C k = c
                  · subst x; exact F_stay C kd hi fin sk (by rw [HF.out]; simp [beats]; omega)
                  · exact F_other C kd hi fin sk x
                clear hK
                rcases hJJ with hJ | ⟨hJ, hJ2⟩
                all_goals
                  go_wp2_with (at_lookup; refine lookup_known _ rfl _ _ 35 rfl 37 3 .i64 law37 Yba.underlying35 Yba.underlying3 (zero3 _) w.heap.size k D rfl ((M.alloc _).alloc _) _ _ rfl hkey (j : Int) true hat hh ?_)
                  go_quiet (fail)
                  go_wp2
                  go_quiet (fail)
                  go_wp2
                  go_roundw
                  case rel => exact ⟨k + 1, D, by omega, by go_num, (((HK.out.alloc _).alloc _).drewN _).idle EB.out HS.out⟩
                  case measure => simp [intOf]; omega
            · have hK' : (kd k == sk) = false := by simpa using hK
              have HS : Hid (∀ c, F C kd hi fin sk (k + 1) c = F C kd hi fin sk k c) := fun c => F_kind C kd hi fin sk hK
              clear hK
              rcases hJJ with hJ | ⟨hJ, hJ2⟩
              all_goals
                go_wp2_with (at_lookup; refine lookup_known _ rfl _ _ 35 rfl 37 3 .i64 law37 Yba.underlying35 Yba.underlying3 (zero3 _) w.heap.size k D rfl ((M.alloc _).alloc _) _ _ rfl hkey (j : Int) true hat hh ?_)
                go_quiet (fail)
                go_wp2
                go_quiet (fail)
                go_wp2
                go_roundw
                case rel => exact ⟨k + 1, D, by omega, by go_num, (((HK.out.alloc _).alloc _).drewN _).idle EB.out HS.out⟩
                case measure => simp [intOf]; omega
    · have : k = len := by omega
      subst this
      go_wp2
      go_ret
      exact ⟨_, rfl, hkeep.row, hkeep.below⟩
end
end Go.Proofs.Ybulkciu
