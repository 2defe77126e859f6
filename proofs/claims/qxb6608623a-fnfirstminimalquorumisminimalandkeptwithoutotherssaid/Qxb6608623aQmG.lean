/- THE PLAIN PART of the match of two lists of subsets, both cheapest first. No Go in sight. -/
import Derived.Test.Qxb6608623aQmH
namespace Go.Proofs.Qxb6608623a.Qm
set_option linter.unusedVariables false

theorem sorted_at {T : List Sb} (h : SortedC T) {i j : Nat} {s t : Sb} (hi : T[i]? = some s) (hj : T[j]? = some t) (hij : i ≤ j) : s.c ≤ t.c := by
  rcases Nat.lt_or_eq_of_le hij with hlt | he
  · obtain ⟨h1, e1⟩ := List.getElem?_eq_some_iff.1 hi
    obtain ⟨h2, e2⟩ := List.getElem?_eq_some_iff.1 hj
    have := List.pairwise_iff_getElem.1 h i j h1 h2 hlt
    rw [e1, e2] at this
    exact this
  · subst he
    rw [hi] at hj
    cases hj
    exact Nat.le_refl _

/-- none of the first i fits any -/
def NoF (thr bud : Nat) (T1 T2 : List Sb) (i : Nat) : Prop := ∀ i' s, i' < i → T1[i']? = some s → ∀ t ∈ T2, ¬ Fits thr bud s t
/-- from l on all cost too much for those from i on -/
def Past (bud : Nat) (T1 T2 : List Sb) (i l : Nat) : Prop := ∀ idx t, T2[idx]? = some t → l ≤ idx → ∀ i' s, i ≤ i' → T1[i']? = some s → bud - s.c < t.c
def None (thr bud : Nat) (T1 T2 : List Sb) : Prop := ∀ s ∈ T1, ∀ t ∈ T2, ¬ Fits thr bud s t

theorem noF_zero (thr bud : Nat) (T1 T2 : List Sb) : NoF thr bud T1 T2 0 := fun i' s h => absurd h (by omega)
theorem past_all (bud : Nat) (T1 T2 : List Sb) : Past bud T1 T2 0 T2.length := fun idx t h hl => by
  have := (List.getElem?_eq_some_iff.1 h).1
  omega
theorem none_of {thr bud : Nat} {T1 T2 : List Sb} (h : NoF thr bud T1 T2 T1.length) : None thr bud T1 T2 := fun s hs t ht => by
  obtain ⟨i, hi⟩ := List.getElem?_of_mem hs
  exact h i s (List.getElem?_eq_some_iff.1 hi).1 hi t ht
theorem none_dear {thr bud : Nat} {T1 T2 : List Sb} {i : Nat} {s : Sb} (hs : SortedC T1) (h : NoF thr bud T1 T2 i) (hi : T1[i]? = some s) (hc : bud < s.c) : None thr bud T1 T2 := fun x hx t ht hf => by
  obtain ⟨j, hj⟩ := List.getElem?_of_mem hx
  rcases Nat.lt_or_ge j i with hlt | hge
  · exact h j x hlt hj t ht hf
  · have := sorted_at hs hi hj hge
    have := hf.1
    omega
theorem none_low {thr bud : Nat} {T1 T2 : List Sb} {i : Nat} {s : Sb} (hs : SortedC T1) (h : NoF thr bud T1 T2 i) (hi : T1[i]? = some s) (hl : ∀ idx t, T2[idx]? = some t → 0 ≤ idx → bud - s.c < t.c) : None thr bud T1 T2 := fun x hx t ht hf => by
  obtain ⟨j, hj⟩ := List.getElem?_of_mem hx
  obtain ⟨k, hk⟩ := List.getElem?_of_mem ht
  rcases Nat.lt_or_ge j i with hlt | hge
  · exact h j x hlt hj t ht hf
  · have := sorted_at hs hi hj hge
    have := hl k t hk (Nat.zero_le _)
    have := hf.2.1
    omega
theorem past_down {bud : Nat} {T1 T2 : List Sb} {i l : Nat} {s : Sb} (hs : SortedC T1) (hi : T1[i]? = some s) (hl : ∀ idx t, T2[idx]? = some t → l ≤ idx → bud - s.c < t.c) : Past bud T1 T2 i l := fun idx t ht hle i' x hi' hx => by
  have := sorted_at hs hi hx hi'
  have := hl idx t ht hle
  omega
theorem past_here {bud : Nat} {T1 T2 : List Sb} {i l : Nat} {s : Sb} (h : Past bud T1 T2 i l) (hi : T1[i]? = some s) : ∀ idx t, T2[idx]? = some t → l ≤ idx → bud - s.c < t.c := fun idx t ht hle => h idx t ht hle i s (Nat.le_refl _) hi
theorem past_next {bud : Nat} {T1 T2 : List Sb} {i l : Nat} (h : Past bud T1 T2 i l) : Past bud T1 T2 (i + 1) l := fun idx t ht hle i' x hi' hx => h idx t ht hle i' x (by omega) hx
theorem step_past {bud l : Nat} {T2 : List Sb} {s t : Sb} (h : ∀ idx t, T2[idx]? = some t → l + 1 ≤ idx → bud - s.c < t.c) (ht : T2[l]? = some t) (hc : bud - s.c < t.c) : ∀ idx t, T2[idx]? = some t → l ≤ idx → bud - s.c < t.c := fun idx x hx hle => by
  rcases Nat.lt_or_eq_of_le hle with h1 | h1
  · exact h idx x hx h1
  · subst h1
    rw [ht] at hx
    cases hx
    exact hc
/-- the last within the budget, and the heaviest up to it -/
theorem some_fit {thr bud l h : Nat} {T1 T2 : List Sb} {i : Nat} {s t : Sb} (hs : SortedC T2) (hi : T1[i]? = some s) (hc : s.c ≤ bud) (ht : T2[l]? = some t) (htc : t.c ≤ bud - s.c) (hh : (hvs 0 T2)[l]? = some h) (hge : thr - s.w ≤ h) : ∃ s ∈ T1, ∃ t ∈ T2, Fits thr bud s t := by
  refine ⟨s, List.mem_of_getElem? hi, ?_⟩
  rcases (hvs_iff T2 0 l h hh).1 hge with h0 | ⟨x, hx, hxw⟩
  · exact ⟨t, List.mem_of_getElem? ht, hc, htc, by omega⟩
  · obtain ⟨j, hj⟩ := List.getElem?_of_mem hx
    have hjl : j < l + 1 := by
      have := (List.getElem?_eq_some_iff.1 hj).1
      rw [List.length_take] at this
      omega
    rw [List.getElem?_take_of_lt hjl] at hj
    have := sorted_at hs hj ht (by omega)
    exact ⟨x, List.mem_of_getElem? hj, hc, by omega, hxw⟩
theorem noF_next {thr bud l h : Nat} {T1 T2 : List Sb} {i : Nat} {s : Sb} (hn : NoF thr bud T1 T2 i) (hi : T1[i]? = some s) (hp : ∀ idx t, T2[idx]? = some t → l + 1 ≤ idx → bud - s.c < t.c) (hh : (hvs 0 T2)[l]? = some h) (hlt : h < thr - s.w) : NoF thr bud T1 T2 (i + 1) := by
  intro i' x hi' hx t ht hf
  rcases Nat.lt_or_ge i' i with h1 | h1
  · exact hn i' x h1 hx t ht hf
  · obtain rfl : i' = i := by omega
    rw [hi] at hx
    cases hx
    obtain ⟨k, hk⟩ := List.getElem?_of_mem ht
    rcases Nat.lt_or_ge l k with h2 | h2
    · have := hp k t hk h2
      have := hf.2.1
      omega
    · have : thr - s.w ≤ h := (hvs_iff T2 0 l h hh).2 (.inr ⟨t, List.mem_iff_getElem?.2 ⟨k, by rw [List.getElem?_take_of_lt (by omega)]; exact hk⟩, hf.2.2⟩)
      omega
theorem hvs_some {T : List Sb} {a l : Nat} (h : l < T.length) : (hvs a T)[l]? = some ((hvs a T).getD l 0) := by
  have h1 : l < (hvs a T).length := by rw [hvs_length]; exact h
  rw [List.getElem?_eq_getElem h1]
  simp [List.getD, h1]
end Go.Proofs.Qxb6608623a.Qm
