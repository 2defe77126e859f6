namespace Go.Proofs.Qxb6608623a.TW
def M : Nat := 18446744073709551615
def rows (n : Nat) : Nat := (n + 1) * (n + 2) / 2
def tw (n t : Nat) : Nat := if M / rows n ≤ t then M else rows n * (t + 1)
def sat (a t : Nat) : Nat := if a * (t + 1) ≤ M then a * (t + 1) else M

theorem rows_succ (n : Nat) : rows (n + 1) = rows n + n + 2 := by
  unfold rows
  have h : (n + 1 + 1) * (n + 1 + 2) = (n + 1) * (n + 2) + 2 * (n + 2) := by
    rw [Nat.mul_comm (n+1) (n+2), ← Nat.mul_comm (n+2), ← Nat.mul_comm 2]
    simp only [Nat.mul_add, Nat.add_mul]; omega
  rw [h]; omega
theorem rows_low (n : Nat) : n + 1 ≤ rows n := by
  unfold rows
  have : 2 * (n+1) ≤ (n+1)*(n+2) := by rw [Nat.mul_comm]; exact Nat.mul_le_mul_left _ (by omega)
  omega
theorem rows_high (n : Nat) : rows n ≤ (n + 1) * (n + 1) := by
  unfold rows
  have : (n+1)*(n+2) ≤ (n+1) * (2 * (n+1)) := Nat.mul_le_mul_left _ (by omega)
  have h2 : (n+1) * (2 * (n+1)) = 2 * ((n+1)*(n+1)) := by rw [Nat.mul_left_comm]
  omega
theorem tw_sat (n t : Nat) : tw n t = sat (rows n) t := by
  unfold tw sat
  have hp : 0 < rows n := by have := rows_low n; omega
  have key : M / rows n ≤ t ↔ ¬ rows n * (t + 1) ≤ M := by
    rw [Nat.not_le, ← Nat.lt_succ_iff, Nat.div_lt_iff_lt_mul hp]
    rw [Nat.mul_comm]
  by_cases h : M / rows n ≤ t
  · rw [if_pos h, if_neg (key.1 h)]
  · have h' := mt key.2 h
    rw [if_neg h, if_pos (by omega)]
theorem sat_le (a t : Nat) : sat a t ≤ M := by unfold sat; split <;> omega
theorem sat_mono {a b t u : Nat} (h : a ≤ b) (g : t ≤ u) : sat a t ≤ sat b u := by
  unfold sat
  have := Nat.mul_le_mul h (Nat.add_le_add_right g 1)
  split <;> split <;> omega
theorem sat_mod {a t : Nat} (h : sat a t ≠ M) : sat a t % (t + 1) = 0 := by
  unfold sat at *
  split at h
  · rw [if_pos ‹_›]; exact Nat.mul_mod_left _ _
  · exact absurd rfl h
theorem sat_wrap (a t : Nat) :
    sat a t = if (a * (t + 1) % (M + 1)) / (t + 1) = a then a * (t + 1) % (M + 1) else M := by
  unfold sat
  by_cases h : a * (t + 1) ≤ M
  · rw [if_pos h, Nat.mod_eq_of_lt (by omega), Nat.mul_div_cancel _ (by omega), if_pos rfl]
  · rw [if_neg h, if_neg]
    intro e
    have h1 := Nat.div_mul_le_self (a * (t + 1) % (M + 1)) (t + 1)
    rw [e] at h1
    have := Nat.mod_lt (a * (t + 1)) (show 0 < M + 1 by omega)
    omega
theorem sat_max {a : Nat} (ha0 : 0 < a) : sat a M = M := by
  unfold sat
  have : 1 * (M + 1) ≤ a * (M + 1) := Nat.mul_le_mul_right _ ha0
  rw [if_neg (by omega)]


/-- the work, over Int as the walk writes it -/
def T (n t : Int) : Int := ((tw n.toNat t.toNat : Nat) : Int)
/-- a times (t+1), capped -/
def S (a t : Int) : Int := ((sat a.toNat t.toNat : Nat) : Int)

theorem T_nat (n t : Nat) : T n t = ((tw n t : Nat) : Int) := by simp [T]
theorem S_nat (a t : Nat) : S a t = ((sat a t : Nat) : Int) := by simp [S]
theorem T_bd (n t : Int) : 0 ≤ T n t ∧ T n t ≤ 18446744073709551615 := by
  have := sat_le (rows n.toNat) t.toNat
  rw [← tw_sat] at this
  unfold M at this
  unfold T
  omega
theorem S_bd (a t : Int) : 0 ≤ S a t ∧ S a t ≤ 18446744073709551615 := by
  have := sat_le a.toNat t.toNat
  unfold M at this
  unfold S
  omega

theorem rows_bd (n : Nat) (h : n ≤ 1073741825) : (n + 1) * (n + 2) ≤ 1152921509975556102 ∧ rows n ≤ 576460754987778051 := by
  have : (n + 1) * (n + 2) ≤ 1073741826 * 1073741827 := Nat.mul_le_mul (by omega) (by omega)
  unfold rows
  omega
theorem wrap_rows (n : Nat) (h : n ≤ 1073741824) : ((((n : Int) + 1) * ((n : Int) + 2)) % 18446744073709551616).tdiv 2 % 18446744073709551616 = ((rows n : Nat) : Int) := by
  have hb := (rows_bd n (by omega)).1
  have e : ((n : Int) + 1) * ((n : Int) + 2) = (((n + 1) * (n + 2) : Nat) : Int) := by simp
  rw [e]
  unfold rows
  generalize (n + 1) * (n + 2) = x at hb ⊢
  clear e
  have e1 : (x : Int) % 18446744073709551616 = x := by omega
  rw [e1, Int.tdiv_eq_ediv_of_nonneg (by omega)]
  omega
theorem wrap_div (r : Nat) : (Int.tdiv 18446744073709551615 (r : Int)) % 18446744073709551616 = ((M / r : Nat) : Int) := by
  rw [Int.tdiv_eq_ediv_of_nonneg (by omega)]
  have : (18446744073709551615 : Int) / (r : Int) = ((M / r : Nat) : Int) := by unfold M; simp
  rw [this]
  have h2 : M / r ≤ M := Nat.div_le_self _ _
  generalize M / r = x at h2 ⊢
  unfold M at h2
  omega
theorem mul_fits (r t : Nat) (h1 : 1 ≤ r) (h : t < M / r) : (r : Int) * ((t : Int) + 1) % 18446744073709551616 = ((r * (t + 1) : Nat) : Int) := by
  have e : (r : Int) * ((t : Int) + 1) = ((r * (t + 1) : Nat) : Int) := by simp
  have h2 : (t + 1) * r ≤ M := (Nat.le_div_iff_mul_le h1).1 h
  rw [Nat.mul_comm] at h2
  rw [e]
  unfold M at h2
  generalize r * (t + 1) = x at *
  omega
theorem sat_walk (a t : Nat) (q : Int) (hq : q = ((a : Int) * ((t : Int) + 1) % 18446744073709551616)) :
    (q.tdiv ((t : Int) + 1) % 18446744073709551616 = (a : Int) → q = ((sat a t : Nat) : Int)) ∧
    (¬ q.tdiv ((t : Int) + 1) % 18446744073709551616 = (a : Int) → sat a t = M) := by
  have e : (a : Int) * ((t : Int) + 1) = ((a * (t + 1) : Nat) : Int) := by simp
  have hs := sat_wrap a t
  rw [e] at hq
  have hx : q = ((a * (t + 1) % (M + 1) : Nat) : Int) := by rw [hq]; unfold M; simp
  have hm := Nat.mod_lt (a * (t + 1)) (show 0 < M + 1 by omega)
  generalize a * (t + 1) % (M + 1) = x at *
  subst hx
  have hd : ((x : Int)).tdiv ((t : Int) + 1) % 18446744073709551616 = ((x / (t + 1) : Nat) : Int) := by
    rw [Int.tdiv_eq_ediv_of_nonneg (by omega)]
    have h1 : (x : Int) / ((t : Int) + 1) = ((x / (t + 1) : Nat) : Int) := by simp
    have h2 : x / (t + 1) ≤ x := Nat.div_le_self _ _
    rw [h1]
    unfold M at hm
    generalize x / (t + 1) = y at *
    omega
  rw [hd]
  constructor
  · intro h
    rw [if_pos (by omega)] at hs
    rw [hs]
  · intro h
    rw [if_neg (by omega)] at hs
    exact hs

theorem T_zero (n : Int) (h0 : 0 ≤ n) (h1 : n ≤ 1073741825) : T n 0 = ((rows n.toNat : Nat) : Int) := by
  have hb := (rows_bd n.toNat (by omega)).2
  have : tw n.toNat 0 = rows n.toNat := by
    rw [tw_sat]; unfold sat M; rw [if_pos (by omega)]; omega
  show ((tw n.toNat 0 : Nat) : Int) = _
  rw [this]
theorem law1 (n t : Int) (h0 : 0 ≤ n) (h1 : n < 1073741824) :
    T 0 0 = 1 ∧ 1 ≤ T n 0 ∧ T n 0 ≤ 576460754987778051 ∧ T (n + 1) 0 = T n 0 + n + 2 ∧ T n t = S (T n 0) t := by
  obtain ⟨k, rfl⟩ := Int.eq_ofNat_of_zero_le h0
  have hb := (rows_bd k (by omega)).2
  have hl := rows_low k
  have hs := rows_succ k
  rw [T_zero k (by omega) (by omega), T_zero (k + 1) (by omega) (by omega), T_zero 0 (by omega) (by omega)]
  have e1 : ((k : Int) + 1).toNat = k + 1 := by omega
  rw [e1, Int.toNat_natCast]
  refine ⟨by decide, by omega, by omega, by omega, ?_⟩
  unfold T S
  rw [Int.toNat_natCast, Int.toNat_natCast, tw_sat]
theorem law2 (n t : Int) (h0 : 0 ≤ n) (h1 : n < 1073741824) (t0 : 0 ≤ t) :
    S (n + 1) t ≤ T n t ∧ T n t ≤ S ((n + 1) * (n + 1)) t ∧ (T n t ≠ 18446744073709551615 → t < 18446744073709551615 ∧ T n t % (t + 1) = 0) ∧ T n t ≤ T (n + 1) t ∧ T n t ≤ T n (t + 1) := by
  obtain ⟨k, rfl⟩ := Int.eq_ofNat_of_zero_le h0
  obtain ⟨t, rfl⟩ := Int.eq_ofNat_of_zero_le t0
  have e1 : ((k : Int) + 1) = ((k + 1 : Nat) : Int) := by omega
  have e2 : ((k : Int) + 1) * ((k : Int) + 1) = (((k + 1) * (k + 1) : Nat) : Int) := by simp
  have e3 : ((t : Int) + 1) = ((t + 1 : Nat) : Int) := by omega
  rw [e2, e1, e3, T_nat, T_nat, T_nat, S_nat, S_nat, tw_sat, tw_sat, tw_sat]
  have hl := rows_low k
  have hs := rows_succ k
  have a1 := sat_mono (t := t) (u := t) hl (Nat.le_refl _)
  have a2 := sat_mono (t := t) (u := t) (rows_high k) (Nat.le_refl _)
  have a3 := sat_mono (t := t) (u := t) (show rows k ≤ rows (k + 1) by omega) (Nat.le_refl _)
  have a4 := sat_mono (a := rows k) (b := rows k) (Nat.le_refl _) (show t ≤ t + 1 by omega)
  refine ⟨by omega, by omega, ?_, by omega, by omega⟩
  intro hne
  have hne' : sat (rows k) t ≠ M := by unfold M; omega
  have hm := sat_mod hne'
  refine ⟨?_, by omega⟩
  by_cases ht : (t : Int) < 18446744073709551615
  · exact ht
  · exfalso
    have h2 := sat_mono (a := rows k) (b := rows k) (Nat.le_refl _) (show M ≤ t by unfold M; omega)
    rw [sat_max (by omega)] at h2
    have := sat_le (rows k) t
    omega
end Go.Proofs.Qxb6608623a.TW
