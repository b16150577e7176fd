/-  The plain law of fallBehind: the greatest hint so far, by group of session and key; the list of what falls behind. No Go in sight. -/
namespace Go.Proofs.Ybulkciu

/-- Does operation k beat the holder (the earlier one bears a lower hint; none: yes)? -/
def beats (hi : Nat → Int) (o : Option Nat) (k : Nat) : Bool := match o with | none => true | some j => decide (hi j < hi k)
/-- Does operation k fall behind the holder? -/
def behind (hi : Nat → Int) (o : Option Nat) (k : Nat) : Bool := match o with | none => false | some j => decide (hi k < hi j)

section
variable (C : Nat → Nat) (kd hi : Nat → Int) (fin : Nat → Bool) (jk sk : Int)

/-- The holder of group c after k operations. -/
def F : Nat → Nat → Option Nat
  | 0, _ => none
  | k + 1, c => if fin k = false ∧ kd k = sk ∧ C k = c ∧ beats hi (F k c) k = true then some k else F k c

/-- What has been found after k operations. -/
def Bl : Nat → List (Nat × Nat)
  | 0 => []
  | k + 1 => if fin k = false ∧ kd k = jk ∧ behind hi (F C kd hi fin sk k (C k)) k = true then Bl k ++ [(k, (F C kd hi fin sk k (C k)).getD 0)] else Bl k

theorem F_lt : ∀ k c j, F C kd hi fin sk k c = some j → j < k
  | 0, _, _, h => by simp [F] at h
  | k + 1, c, j, h => by
    unfold F at h
    split at h
    · simp at h; omega
    · have := F_lt k c j h; omega

theorem F_other {k c : Nat} (h : C k ≠ c) : F C kd hi fin sk (k + 1) c = F C kd hi fin sk k c := by
  simp only [F]; rw [if_neg (by intro x; exact h x.2.2.1)]
theorem F_fin {k c : Nat} (h : fin k = true) : F C kd hi fin sk (k + 1) c = F C kd hi fin sk k c := by
  simp only [F]; rw [if_neg (by intro x; simp [h] at x)]
theorem F_kind {k c : Nat} (h : kd k ≠ sk) : F C kd hi fin sk (k + 1) c = F C kd hi fin sk k c := by
  simp only [F]; rw [if_neg (by intro x; exact h x.2.1)]
theorem F_stay {k c : Nat} (h : beats hi (F C kd hi fin sk k c) k = false) : F C kd hi fin sk (k + 1) c = F C kd hi fin sk k c := by
  simp only [F]; rw [if_neg (by intro x; simp [h] at x)]
theorem F_new {k c : Nat} (h0 : fin k = false) (h1 : kd k = sk) (h2 : C k = c) (h3 : beats hi (F C kd hi fin sk k c) k = true) : F C kd hi fin sk (k + 1) c = some k := by
  simp only [F]; rw [if_pos ⟨h0, h1, h2, h3⟩]

theorem Bl_fin {k : Nat} (h : fin k = true) : Bl C kd hi fin jk sk (k + 1) = Bl C kd hi fin jk sk k := by
  simp only [Bl]; rw [if_neg (by intro x; simp [h] at x)]
theorem Bl_kind {k : Nat} (h : kd k ≠ jk) : Bl C kd hi fin jk sk (k + 1) = Bl C kd hi fin jk sk k := by
  simp only [Bl]; rw [if_neg (by intro x; exact h x.2.1)]
theorem Bl_stay {k : Nat} (h : behind hi (F C kd hi fin sk k (C k)) k = false) : Bl C kd hi fin jk sk (k + 1) = Bl C kd hi fin jk sk k := by
  simp only [Bl]; rw [if_neg (by intro x; simp [h] at x)]
theorem Bl_new {k j : Nat} (h0 : fin k = false) (h1 : kd k = jk) (h2 : F C kd hi fin sk k (C k) = some j) (h3 : hi k < hi j) : Bl C kd hi fin jk sk (k + 1) = Bl C kd hi fin jk sk k ++ [(k, j)] := by
  simp only [Bl]; rw [if_pos ⟨h0, h1, by simp [behind, h2, h3]⟩, h2]; rfl

theorem Bl_le : ∀ k, (Bl C kd hi fin jk sk k).length ≤ k
  | 0 => by simp [Bl]
  | k + 1 => by
    have := Bl_le k
    unfold Bl
    split
    · simp; omega
    · omega
theorem Bl_lt : ∀ k, ∀ p ∈ Bl C kd hi fin jk sk k, p.1 < k ∧ p.2 < k
  | 0, p, h => by simp [Bl] at h
  | k + 1, p, h => by
    unfold Bl at h
    split at h
    · rename_i hc
      rcases List.mem_append.1 h with h | h
      · have := Bl_lt k p h; omega
      · simp at h
        subst h
        have hb := hc.2.2
        cases e : F C kd hi fin sk k (C k) with
        | none => simp [e, behind] at hb
        | some j => have := F_lt C kd hi fin sk k (C k) j e; simp; omega
    · have := Bl_lt k p h; omega
theorem Bl_prefix : ∀ (n i : Nat), i ≤ n → ∃ rest, Bl C kd hi fin jk sk n = Bl C kd hi fin jk sk i ++ rest
  | 0, i, h => by obtain rfl : i = 0 := (by omega); exact ⟨[], by simp⟩
  | n + 1, i, h => by
    by_cases e : i = n + 1
    · subst e; exact ⟨[], by simp⟩
    · obtain ⟨rest, hr⟩ := Bl_prefix n i (by omega)
      by_cases hc : fin n = false ∧ kd n = jk ∧ behind hi (F C kd hi fin sk n (C n)) n = true
      · refine ⟨rest ++ [(n, (F C kd hi fin sk n (C n)).getD 0)], ?_⟩
        rw [Bl, if_pos hc, hr, List.append_assoc]
      · exact ⟨rest, by rw [Bl, if_neg hc, hr]⟩
/-- What is found at round i stands in the whole list where the list of the first i rounds ends. -/
theorem Bl_at {n i j : Nat} (h : i < n) (e : Bl C kd hi fin jk sk (i + 1) = Bl C kd hi fin jk sk i ++ [(i, j)]) :
    (Bl C kd hi fin jk sk n)[(Bl C kd hi fin jk sk i).length]? = some (i, j) := by
  obtain ⟨rest, hr⟩ := Bl_prefix C kd hi fin jk sk n (i + 1) (by omega)
  rw [hr, e]
  simp
theorem Bl_mono {n i : Nat} (h : i ≤ n) : (Bl C kd hi fin jk sk i).length ≤ (Bl C kd hi fin jk sk n).length := by
  obtain ⟨rest, hr⟩ := Bl_prefix C kd hi fin jk sk n i h
  rw [hr]; simp
end
end Go.Proofs.Ybulkciu
