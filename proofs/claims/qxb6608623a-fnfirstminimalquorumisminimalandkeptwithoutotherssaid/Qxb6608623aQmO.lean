/- THE PLAIN PART of firstByHalves' two searches. No Go in sight. -/
import Derived.Test.Qxb6608623aQmG
namespace Go.Proofs.Qxb6608623a.Qm
set_option linter.unusedVariables false

def Fit2 (thr bud : Nat) (S1 S2 : List (List Sb)) (j k : Nat) : Prop := ∃ T1 T2 s t, S1[j]? = some T1 ∧ S2[k]? = some T2 ∧ s ∈ T1 ∧ t ∈ T2 ∧ Fits thr bud s t
def NoUpTo (thr bud : Nat) (S1 S2 : List (List Sb)) (z : Nat) : Prop := ∀ j k, j + k < z → ¬ Fit2 thr bud S1 S2 j k

theorem wt_none : ∀ (vs : List Vt) (m : List Bool), cnt m = 0 → wt vs m = 0
  | [], _, _ => by simp [wt]
  | _ :: _, [], _ => by simp [wt]
  | v :: vs, a :: m, h => by
    simp only [cnt] at h
    cases a
    · simp only [wt, Bool.false_eq_true, if_false, Nat.zero_add]
      exact wt_none vs m (by simpa using h)
    · simp at h
theorem no_zero {thr bud over n1 n2 : Nat} {v1 v2 : List Vt} {S1 S2 : List (List Sb)} (h1 : Lists n1 thr over v1 S1) (h2 : Lists n2 thr over v2 S2) (ht : 1 ≤ thr) : NoUpTo thr bud S1 S2 1 := by
  rintro j k hjk ⟨T1, T2, s, t, e1, e2, hs, ht', hf⟩
  obtain rfl : j = 0 := by omega
  obtain rfl : k = 0 := by omega
  obtain ⟨m, _, hm, rfl⟩ := ((h1.2 0 T1 e1).2.2 s).1 hs
  obtain ⟨m', _, hm', rfl⟩ := ((h2.2 0 T2 e2).2.2 t).1 ht'
  have h3 := hf.2.2
  simp only [tri, wt_none _ _ hm, wt_none _ _ hm'] at h3
  omega
theorem upto_next {thr bud z h1 h2 jj : Nat} {S1 S2 : List (List Sb)} (l1 : S1.length = h1 + 1) (l2 : S2.length = h2 + 1) (h : NoUpTo thr bud S1 S2 z) (hn : ∀ j, z - h2 ≤ j → j < jj → ¬ Fit2 thr bud S1 S2 j (z - j)) (hj : ¬ (jj ≤ z ∧ jj ≤ h1)) : NoUpTo thr bud S1 S2 (z + 1) := by
  rintro j k hjk hf
  rcases Nat.lt_or_ge (j + k) z with hlt | hge
  · exact h j k hlt hf
  · have hf2 := hf
    obtain ⟨T1, T2, s, t, e1, e2, _⟩ := hf2
    have b1 := (List.getElem?_eq_some_iff.1 e1).1
    have b2 := (List.getElem?_eq_some_iff.1 e2).1
    refine hn j (by omega) (by omega) ?_
    rw [show z - j = k by omega]
    exact hf
theorem none_fit2 {thr bud j k : Nat} {S1 S2 : List (List Sb)} {T1 T2 : List Sb} (e1 : S1[j]? = some T1) (e2 : S2[k]? = some T2) (h : None thr bud T1 T2) : ¬ Fit2 thr bud S1 S2 j k := by
  rintro ⟨T1', T2', s, t, a1, a2, hs, ht, hf⟩
  rw [e1] at a1
  rw [e2] at a2
  cases a1
  cases a2
  exact h s hs t ht hf
theorem some_upto {thr bud over : Nat} (ho : bud < over) {a b : List Vt} {S1 S2 : List (List Sb)} (h1 : Lists a.length thr over a S1) (h2 : Lists b.length thr over b S2) (m : List Bool) (f : Feas (a ++ b) thr bud m) (h : NoUpTo thr bud S1 S2 (a.length + b.length + 1)) : False := by
  obtain ⟨j, k, T1, T2, s, t, hj, hk, e1, e2, hs, ht, hf⟩ := halves_some ho h1 h2 m f
  exact h j k (by omega) ⟨T1, T2, s, t, e1, e2, hs, ht, hf⟩

/-- how many of the list are within what is left of the budget -/
def Within (bud : Nat) (s : Sb) (T : List Sb) (r : Nat) : Prop := ∀ i t, T[i]? = some t → (t.c ≤ bud - s.c ↔ i < r)
/-- can the subset s of j voters be completed? -/
def Cpl (thr bud : Nat) (S2 : List (List Sb)) (k : Nat) (s : Sb) : Prop := ∃ T2 t, S2[k]? = some T2 ∧ t ∈ T2 ∧ Fits thr bud s t
theorem cpl_iff {thr bud k r h : Nat} {S2 : List (List Sb)} {T2 : List Sb} {s : Sb} (e2 : S2[k]? = some T2) (hc : s.c ≤ bud) (hw : Within bud s T2 (r + 1)) (hr : r < T2.length) (hh : (hvs 0 T2)[r]? = some h) : thr - s.w ≤ h ↔ Cpl thr bud S2 k s := by
  rw [hvs_iff T2 0 r h hh]
  constructor
  · rintro (h0 | ⟨t, ht, htw⟩)
    · obtain ⟨t, ht⟩ : ∃ t, T2[r]? = some t := ⟨_, List.getElem?_eq_getElem hr⟩
      exact ⟨T2, t, e2, List.mem_of_getElem? ht, hc, (hw r t ht).2 (by omega), by omega⟩
    · obtain ⟨i, hi⟩ := List.getElem?_of_mem ht
      have hil : i < r + 1 := by
        have := (List.getElem?_eq_some_iff.1 hi).1
        rw [List.length_take] at this
        omega
      rw [List.getElem?_take_of_lt hil] at hi
      exact ⟨T2, t, e2, List.mem_of_getElem? hi, hc, (hw i t hi).2 hil, htw⟩
  · rintro ⟨T2', t, a2, ht, hf⟩
    rw [e2] at a2
    cases a2
    obtain ⟨i, hi⟩ := List.getElem?_of_mem ht
    have := (hw i t hi).1 hf.2.1
    exact .inr ⟨t, List.mem_iff_getElem?.2 ⟨i, by rw [List.getElem?_take_of_lt this]; exact hi⟩, hf.2.2⟩
theorem cpl_none {thr bud k : Nat} {S2 : List (List Sb)} {T2 : List Sb} {s : Sb} (e2 : S2[k]? = some T2) (hw : Within bud s T2 0) : ¬ Cpl thr bud S2 k s := by
  rintro ⟨T2', t, a2, ht, hf⟩
  rw [e2] at a2
  cases a2
  obtain ⟨i, hi⟩ := List.getElem?_of_mem ht
  have := (hw i t hi).1 hf.2.1
  omega
theorem cpl_dear {thr bud k : Nat} {S2 : List (List Sb)} {s : Sb} (h : bud < s.c) : ¬ Cpl thr bud S2 k s := by
  rintro ⟨T2', t, a2, ht, hf⟩
  have := hf.1
  omega

/-- seen so far: those of fewer than j voters, and of j voters the first i -/
def Seen (S1 : List (List Sb)) (z h2 j i : Nat) (j' : Nat) (s : Sb) : Prop := z - h2 ≤ j' ∧ ∃ T i', S1[j']? = some T ∧ T[i']? = some s ∧ (j' < j ∨ (j' = j ∧ i' < i))
/-- what the search has found: nothing, or the greatest mask so far that can be completed, with how many are within -/
def Best (thr bud : Nat) (S1 S2 : List (List Sb)) (z h2 j i : Nat) (tk : Sb) (cm : Int) : Prop :=
  (cm = -1 ∧ ∀ j' s, Seen S1 z h2 j i j' s → ¬ Cpl thr bud S2 (z - j') s) ∨
  (∃ (r j0 : Nat) (T2 : List Sb), cm = (r : Int) + 1 ∧ Seen S1 z h2 j i j0 tk ∧ j0 ≤ z ∧ S2[z - j0]? = some T2 ∧ r < T2.length ∧ Within bud tk T2 (r + 1) ∧ Cpl thr bud S2 (z - j0) tk ∧ ∀ j' s, Seen S1 z h2 j i j' s → Cpl thr bud S2 (z - j') s → s.m ≤ tk.m)
theorem seen_next {S1 : List (List Sb)} {z h2 j i j' : Nat} {s x : Sb} {T : List Sb} (e : S1[j]? = some T) (hx : T[i]? = some x) (h : Seen S1 z h2 j (i + 1) j' s) : Seen S1 z h2 j i j' s ∨ (j' = j ∧ s = x) := by
  obtain ⟨h0, T', i', e1, e2, h3⟩ := h
  rcases h3 with h3 | ⟨rfl, h3⟩
  · exact .inl ⟨h0, T', i', e1, e2, .inl h3⟩
  · rcases Nat.lt_or_ge i' i with h4 | h4
    · exact .inl ⟨h0, T', i', e1, e2, .inr ⟨rfl, h4⟩⟩
    · obtain rfl : i' = i := by omega
      rw [e] at e1
      cases e1
      rw [hx] at e2
      cases e2
      exact .inr ⟨rfl, rfl⟩
theorem seen_keep {S1 : List (List Sb)} {z h2 j i j' : Nat} {s : Sb} (h : Seen S1 z h2 j i j' s) : Seen S1 z h2 j (i + 1) j' s := by
  obtain ⟨h0, T', i', e1, e2, h3⟩ := h
  exact ⟨h0, T', i', e1, e2, by omega⟩
theorem best_skip {thr bud : Nat} {S1 S2 : List (List Sb)} {z h2 j i : Nat} {tk x : Sb} {cm : Int} {T : List Sb} (h : Best thr bud S1 S2 z h2 j i tk cm) (e : S1[j]? = some T) (hx : T[i]? = some x) (hno : ¬ Cpl thr bud S2 (z - j) x ∨ (cm ≠ -1 ∧ x.m < tk.m)) : Best thr bud S1 S2 z h2 j (i + 1) tk cm := by
  rcases h with ⟨h1, h2'⟩ | ⟨r, j0, T2, h1, h2', h3, h4, h5, h6, h7, h8⟩
  · refine .inl ⟨h1, fun j' s hs hc => ?_⟩
    rcases seen_next e hx hs with hs | ⟨rfl, rfl⟩
    · exact h2' j' s hs hc
    · rcases hno with hno | ⟨hno, _⟩
      · exact hno hc
      · exact hno h1
  · refine .inr ⟨r, j0, T2, h1, seen_keep h2', h3, h4, h5, h6, h7, fun j' s hs hc => ?_⟩
    rcases seen_next e hx hs with hs | ⟨rfl, rfl⟩
    · exact h8 j' s hs hc
    · rcases hno with hno | ⟨_, hno⟩
      · exact absurd hc hno
      · omega
theorem best_take {thr bud r : Nat} {S1 S2 : List (List Sb)} {z h2 j i : Nat} {tk x : Sb} {cm : Int} {T T2 : List Sb} (h : Best thr bud S1 S2 z h2 j i tk cm) (e : S1[j]? = some T) (hx : T[i]? = some x) (hz : z - h2 ≤ j) (hjz : j ≤ z) (e2 : S2[z - j]? = some T2) (hr : r < T2.length) (hw : Within bud x T2 (r + 1)) (hc : Cpl thr bud S2 (z - j) x) (hm : cm = -1 ∨ tk.m ≤ x.m) : Best thr bud S1 S2 z h2 j (i + 1) x ((r : Int) + 1) := by
  refine .inr ⟨r, j, T2, rfl, ⟨hz, T, i, e, hx, .inr ⟨rfl, Nat.lt_succ_self _⟩⟩, hjz, e2, hr, hw, hc, fun j' s hs hcs => ?_⟩
  rcases seen_next e hx hs with hs | ⟨rfl, rfl⟩
  · rcases h with ⟨h1, h2'⟩ | ⟨r', j0, T2', h1, h2', h3, h4, h5, h6, h7, h8⟩
    · exact absurd hcs (h2' j' s hs)
    · have := h8 j' s hs hcs
      rcases hm with hm | hm <;> omega
  · exact Nat.le_refl _
theorem best_row {thr bud : Nat} {S1 S2 : List (List Sb)} {z h2 j : Nat} {tk : Sb} {cm : Int} {T : List Sb} (h : Best thr bud S1 S2 z h2 j T.length tk cm) (e : S1[j]? = some T) : Best thr bud S1 S2 z h2 (j + 1) 0 tk cm := by
  have key : ∀ j' s, Seen S1 z h2 (j + 1) 0 j' s ↔ Seen S1 z h2 j T.length j' s := by
    intro j' s
    constructor
    · rintro ⟨h0, T', i', e1, e2, h3⟩
      refine ⟨h0, T', i', e1, e2, ?_⟩
      rcases h3 with h3 | ⟨_, h3⟩
      · rcases Nat.lt_or_ge j' j with h4 | h4
        · exact .inl h4
        · obtain rfl : j' = j := by omega
          rw [e] at e1
          cases e1
          exact .inr ⟨rfl, (List.getElem?_eq_some_iff.1 e2).1⟩
      · omega
    · rintro ⟨h0, T', i', e1, e2, h3⟩
      exact ⟨h0, T', i', e1, e2, by omega⟩
  rcases h with ⟨h1, h2'⟩ | ⟨r, j0, T2, h1, h2', h3, h4, h5, h6, h7, h8⟩
  · exact .inl ⟨h1, fun j' s hs => h2' j' s ((key j' s).1 hs)⟩
  · exact .inr ⟨r, j0, T2, h1, (key _ _).2 h2', h3, h4, h5, h6, h7, fun j' s hs => h8 j' s ((key j' s).1 hs)⟩
theorem best_start (thr bud : Nat) (S1 S2 : List (List Sb)) (z h2 : Nat) (tk : Sb) : Best thr bud S1 S2 z h2 (z - h2) 0 tk (-1) :=
  .inl ⟨rfl, fun j' s hs => by
    obtain ⟨h0, T', i', e1, e2, h3⟩ := hs
    omega⟩
/-- at the end: the greatest mask of all -/
theorem best_end {thr bud : Nat} {S1 S2 : List (List Sb)} {z h1 h2 jj : Nat} {tk : Sb} {cm : Int} (l1 : S1.length = h1 + 1) (l2 : S2.length = h2 + 1) (h : Best thr bud S1 S2 z h2 jj 0 tk cm) (hj : ¬ (jj ≤ z ∧ jj ≤ h1)) (hf : ∃ j k, j + k = z ∧ Fit2 thr bud S1 S2 j k) :
    ∃ (r j0 : Nat) (T1 T2 : List Sb), cm = (r : Int) + 1 ∧ j0 ≤ z ∧ S1[j0]? = some T1 ∧ tk ∈ T1 ∧ S2[z - j0]? = some T2 ∧ r < T2.length ∧ Within bud tk T2 (r + 1) ∧ Cpl thr bud S2 (z - j0) tk ∧
      ∀ j' k' T1' T2' s' t', j' + k' = z → S1[j']? = some T1' → S2[k']? = some T2' → s' ∈ T1' → t' ∈ T2' → Fits thr bud s' t' → s'.m ≤ tk.m := by
  have key : ∀ j' k' T1' T2' s' t', j' + k' = z → S1[j']? = some T1' → S2[k']? = some T2' → s' ∈ T1' → t' ∈ T2' → Fits thr bud s' t' → Seen S1 z h2 jj 0 j' s' ∧ Cpl thr bud S2 (z - j') s' := by
    intro j' k' T1' T2' s' t' hz a1 a2 hs ht hft
    have b1 := (List.getElem?_eq_some_iff.1 a1).1
    have b2 := (List.getElem?_eq_some_iff.1 a2).1
    obtain ⟨i, hi⟩ := List.getElem?_of_mem hs
    refine ⟨⟨by omega, T1', i, a1, hi, .inl (by omega)⟩, T2', t', ?_, ht, hft⟩
    rw [show z - j' = k' by omega]
    exact a2
  rcases h with ⟨h1', h2'⟩ | ⟨r, j0, T2, h1', h2', h3, h4, h5, h6, h7, h8⟩
  · obtain ⟨j, k, hjk, T1, T2, s, t, e1, e2, hs, ht, hft⟩ := hf
    obtain ⟨k1, k2⟩ := key j k T1 T2 s t hjk e1 e2 hs ht hft
    exact absurd k2 (h2' j s k1)
  · obtain ⟨_, T1, i', e1, e2, _⟩ := h2'
    refine ⟨r, j0, T1, T2, h1', h3, e1, List.mem_of_getElem? e2, h4, h5, h6, h7, fun j' k' T1' T2' s' t' hz a1 a2 hs ht hft => ?_⟩
    obtain ⟨k1, k2⟩ := key j' k' T1' T2' s' t' hz a1 a2 hs ht hft
    exact h8 j' s' k1 k2

/-- the greatest mask that completes, among the first i -/
def Cmx (thr bud : Nat) (s : Sb) (T2 : List Sb) (i c : Nat) : Prop := (∀ i' t, i' < i → T2[i']? = some t → thr - s.w ≤ t.w → t.m ≤ c) ∧ (c = 0 ∨ ∃ i' t, i' < i ∧ T2[i']? = some t ∧ thr - s.w ≤ t.w ∧ t.m = c)
theorem cmx_zero (thr bud : Nat) (s : Sb) (T2 : List Sb) : Cmx thr bud s T2 0 0 := ⟨fun i' t h => absurd h (by omega), .inl rfl⟩
theorem cmx_step {thr bud i c : Nat} {s t : Sb} {T2 : List Sb} (h : Cmx thr bud s T2 i c) (ht : T2[i]? = some t) : Cmx thr bud s T2 (i + 1) (if thr - s.w ≤ t.w then max c t.m else c) := by
  obtain ⟨h1, h2⟩ := h
  constructor
  · intro i' x hi hx hw
    rcases Nat.lt_or_ge i' i with h3 | h3
    · have := h1 i' x h3 hx hw
      split <;> omega
    · obtain rfl : i' = i := by omega
      rw [ht] at hx
      cases hx
      rw [if_pos hw]
      omega
  · split
    · rename_i hw
      rcases Nat.lt_or_ge c t.m with h3 | h3
      · exact .inr ⟨i, t, Nat.lt_succ_self _, ht, hw, by omega⟩
      · rw [show max c t.m = c by omega]
        rcases h2 with h2 | ⟨i', x, a, b', c', d⟩
        · exact .inl h2
        · exact .inr ⟨i', x, by omega, b', c', d⟩
    · rcases h2 with h2 | ⟨i', x, a, b', c', d⟩
      · exact .inl h2
      · exact .inr ⟨i', x, by omega, b', c', d⟩
theorem cmx_end {thr bud r c : Nat} {s : Sb} {T2 : List Sb} {S2 : List (List Sb)} {k : Nat} (e2 : S2[k]? = some T2) (hw : Within bud s T2 (r + 1)) (hc : Cpl thr bud S2 k s) (h : Cmx thr bud s T2 (r + 1) c) (hcb : s.c ≤ bud) : ∃ t ∈ T2, Fits thr bud s t ∧ t.m = c ∧ ∀ t' ∈ T2, Fits thr bud s t' → t'.m ≤ c := by
  obtain ⟨h1, h2⟩ := h
  have key : ∀ t' ∈ T2, Fits thr bud s t' → t'.m ≤ c := fun t' ht' hf => by
    obtain ⟨i, hi⟩ := List.getElem?_of_mem ht'
    exact h1 i t' ((hw i t' hi).1 hf.2.1) hi hf.2.2
  rcases h2 with h2 | ⟨i', t, a, b', c', d⟩
  · obtain ⟨T2', t, a2, ht, hf⟩ := hc
    rw [e2] at a2
    cases a2
    have := key t ht hf
    exact ⟨t, ht, hf, by omega, key⟩
  · exact ⟨t, List.mem_of_getElem? b', ⟨hcb, (hw i' t b').2 a, c'⟩, d, key⟩
end Go.Proofs.Qxb6608623a.Qm
