/- THE PLAIN PART of the law: the places of those taken. No Go in sight. -/
import Derived.Test.Qxb6608623aQmH
namespace Go.Proofs.Qxb6608623a.Qm
set_option linter.unusedVariables false

/-- the places of those taken, counted from k -/
def plc : Nat → List Bool → List Nat
  | _, [] => []
  | k, true :: m => k :: plc (k + 1) m
  | k, false :: m => plc (k + 1) m
theorem plc_length : ∀ (k : Nat) (m : List Bool), (plc k m).length = cnt m
  | _, [] => rfl
  | k, true :: m => by simp [plc, cnt, plc_length (k + 1) m]; omega
  | k, false :: m => by simp [plc, cnt, plc_length (k + 1) m]
theorem plc_mem : ∀ (k : Nat) (m : List Bool) (p : Nat), p ∈ plc k m ↔ ∃ i, p = k + i ∧ m[i]? = some true
  | k, [], p => by simp [plc]
  | k, true :: m, p => by
    simp only [plc, List.mem_cons, plc_mem (k + 1) m p]
    constructor
    · rintro (rfl | ⟨i, rfl, h⟩)
      · exact ⟨0, rfl, rfl⟩
      · exact ⟨i + 1, by omega, by simpa using h⟩
    · rintro ⟨i, rfl, h⟩
      cases i with
      | zero => exact .inl rfl
      | succ i => exact .inr ⟨i, by omega, by simpa using h⟩
  | k, false :: m, p => by
    simp only [plc, plc_mem (k + 1) m p]
    constructor
    · rintro ⟨i, rfl, h⟩
      exact ⟨i + 1, by omega, by simpa using h⟩
    · rintro ⟨i, rfl, h⟩
      cases i with
      | zero => simp at h
      | succ i => exact ⟨i, by omega, by simpa using h⟩
theorem plc_sorted : ∀ (k : Nat) (m : List Bool), (plc k m).Pairwise (· < ·)
  | _, [] => List.Pairwise.nil
  | k, true :: m => by
    refine List.pairwise_cons.2 ⟨fun p hp => ?_, plc_sorted (k + 1) m⟩
    obtain ⟨i, rfl, _⟩ := (plc_mem _ _ _).1 hp
    omega
  | k, false :: m => plc_sorted (k + 1) m
theorem sel_at : ∀ (vs : List Vt) (m : List Bool) (k g p : Nat), m.length = vs.length → (plc k m)[g]? = some p → ∃ v, k ≤ p ∧ vs[p - k]? = some v ∧ (sel vs m)[g]? = some v
  | [], [], k, g, p, _, h => by simp [plc] at h
  | [], _ :: _, _, _, _, h, _ => by simp at h
  | _ :: _, [], _, _, _, h, _ => by simp at h
  | v :: vs, true :: m, k, 0, p, hl, h => by
    simp [plc] at h
    subst h
    exact ⟨v, Nat.le_refl _, by simp, by simp [sel]⟩
  | v :: vs, true :: m, k, g + 1, p, hl, h => by
    obtain ⟨u, h1, h2, h3⟩ := sel_at vs m (k + 1) g p (by simpa using hl) (by simpa [plc] using h)
    refine ⟨u, by omega, ?_, by simpa [sel] using h3⟩
    rw [show p - k = (p - (k + 1)) + 1 by omega]
    simpa using h2
  | v :: vs, false :: m, k, g, p, hl, h => by
    obtain ⟨u, h1, h2, h3⟩ := sel_at vs m (k + 1) g p (by simpa using hl) (by simpa [plc] using h)
    refine ⟨u, by omega, ?_, by simpa [sel] using h3⟩
    rw [show p - k = (p - (k + 1)) + 1 by omega]
    simpa using h2
/-- sums over a list of voters -/
def sw : List Vt → Nat
  | [] => 0
  | v :: vs => v.w + sw vs
def sc : List Vt → Nat
  | [] => 0
  | v :: vs => v.c + sc vs
theorem sw_append (a b : List Vt) : sw (a ++ b) = sw a + sw b := by
  induction a with
  | nil => simp [sw]
  | cons v a ih => simp [sw, ih]; omega
theorem sc_append (a b : List Vt) : sc (a ++ b) = sc a + sc b := by
  induction a with
  | nil => simp [sc]
  | cons v a ih => simp [sc, ih]; omega
theorem sw_sel : ∀ (vs : List Vt) (m : List Bool), sw (sel vs m) = wt vs m
  | [], m => by simp [sel, sw, wt]
  | v :: vs, [] => by simp [sel, sw, wt]
  | v :: vs, true :: m => by simp [sel, sw, wt, sw_sel vs m]
  | v :: vs, false :: m => by simp [sel, wt, sw_sel vs m]
theorem sc_sel : ∀ (vs : List Vt) (m : List Bool), sc (sel vs m) = ct vs m
  | [], m => by simp [sel, sc, ct]
  | v :: vs, [] => by simp [sel, sc, ct]
  | v :: vs, true :: m => by simp [sel, sc, ct, sc_sel vs m]
  | v :: vs, false :: m => by simp [sel, ct, sc_sel vs m]
theorem wt_all : ∀ vs : List Vt, wt vs (List.replicate vs.length true) = sw vs ∧ ct vs (List.replicate vs.length true) = sc vs
  | [] => by simp [wt, ct, sw, sc]
  | v :: vs => by
    obtain ⟨h1, h2⟩ := wt_all vs
    simp [wt, ct, sw, sc, List.replicate_succ, h1, h2]
/-- all together: feasible -/
theorem all_fit {vs : List Vt} {thr bud : Nat} (h1 : thr ≤ sw vs) (h2 : sc vs ≤ bud) : Feas vs thr bud (List.replicate vs.length true) :=
  ⟨by simp, by rw [(wt_all vs).1]; exact h1, by rw [(wt_all vs).2]; exact h2⟩
/-- without the one at g -/
theorem sel_erase : ∀ (vs : List Vt) (m : List Bool) (k g p : Nat), m.length = vs.length → (plc k m)[g]? = some p → sel vs (m.set (p - k) false) = (sel vs m).eraseIdx g
  | [], [], k, g, p, _, h => by simp [plc] at h
  | [], _ :: _, _, _, _, h, _ => by simp at h
  | _ :: _, [], _, _, _, h, _ => by simp at h
  | v :: vs, true :: m, k, 0, p, hl, h => by
    simp [plc] at h
    subst h
    simp [sel]
  | v :: vs, true :: m, k, g + 1, p, hl, h => by
    have h' : (plc (k + 1) m)[g]? = some p := by simpa [plc] using h
    obtain ⟨u, h1, _⟩ := sel_at vs m (k + 1) g p (by simpa using hl) h'
    have := sel_erase vs m (k + 1) g p (by simpa using hl) h'
    rw [show p - k = (p - (k + 1)) + 1 by omega]
    simp [sel, this]
  | v :: vs, false :: m, k, g, p, hl, h => by
    have h' : (plc (k + 1) m)[g]? = some p := by simpa [plc] using h
    obtain ⟨u, h1, _⟩ := sel_at vs m (k + 1) g p (by simpa using hl) h'
    have := sel_erase vs m (k + 1) g p (by simpa using hl) h'
    rw [show p - k = (p - (k + 1)) + 1 by omega]
    simp [sel, this]
/-- no voter of the first quorum can be spared -/
theorem spare {vs : List Vt} {thr bud g p : Nat} {m : List Bool} (h : IsFirst vs thr bud m) (hg : (plc 0 m)[g]? = some p) : sw ((sel vs m).eraseIdx g) < thr := by
  have hm : m[p]? = some true := by
    obtain ⟨i, rfl, hi⟩ := (plc_mem 0 m p).1 (List.mem_of_getElem? hg)
    simpa using hi
  have h1 := first_minimal h p hm
  have h2 := sel_erase vs m 0 g p h.1.1 hg
  rw [Nat.sub_zero] at h2
  rw [← h2, sw_sel]
  exact h1
/-- the rest of the voters, built one by one -/
theorem rest_step {vs : List Vt} {i d : Nat} {v : Vt} (hv : vs[i]? = some v) (hne : i ≠ d) : (vs.take (i + 1)).eraseIdx d = (vs.take i).eraseIdx d ++ [v] := by
  have hi := (List.getElem?_eq_some_iff.1 hv).1
  rw [List.take_add_one, hv]
  simp only [Option.toList]
  rcases Nat.lt_or_ge d i with h | h
  · rw [List.eraseIdx_append_of_lt_length (by rw [List.length_take]; omega)]
  · rw [List.eraseIdx_of_length_le (by simp; omega), List.eraseIdx_of_length_le (by simp; omega)]
theorem rest_skip {vs : List Vt} {d : Nat} {v : Vt} (hv : vs[d]? = some v) : (vs.take (d + 1)).eraseIdx d = (vs.take d).eraseIdx d := by
  have hi := (List.getElem?_eq_some_iff.1 hv).1
  have hl : (vs.take d).length = d := by rw [List.length_take]; omega
  rw [List.take_add_one, hv, List.eraseIdx_of_length_le (l := vs.take d) (by omega)]
  simp only [Option.toList]
  rw [List.eraseIdx_append_of_length_le (by omega), hl]
  simp
end Go.Proofs.Qxb6608623a.Qm
