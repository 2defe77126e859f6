/- THE PLAIN PART of the tables: what they hold, and the pick by them is the first. No Go in sight. -/
import Derived.Test.Qxb6608623aQmP
namespace Go.Proofs.Qxb6608623a.Qm
set_option linter.unusedVariables false

/-- 'addUpTo' -/
def addU (a b lim : Nat) : Nat := if lim - a ≤ b then lim else a + b
theorem addU_le_sum {a b lim : Nat} : addU a b lim ≤ a + b := by unfold addU; split <;> omega
theorem addU_le_lim {a b lim : Nat} (h : a ≤ lim) : addU a b lim ≤ lim := by unfold addU; split <;> omega
theorem addU_min {a b lim : Nat} (h : a ≤ lim) : addU a b lim = min (a + b) lim := by unfold addU; split <;> omega
theorem addU_le {a b lim x : Nat} (h : a ≤ lim) (hx : x < lim) : addU a b lim ≤ x ↔ b ≤ x ∧ a ≤ x - b := by
  rw [addU_min h]; omega

/-- the least cost of at most k of the voters that weigh w or more together, or over -/
def Lc (over : Nat) : List Vt → Nat → Nat → Nat
  | [], _, w => if w = 0 then 0 else over
  | _ :: vs, 0, w => Lc over vs 0 w
  | v :: vs, k + 1, w => min (Lc over vs (k + 1) w) (addU (Lc over vs k (w - v.w)) v.c over)

def Ok (vs : List Vt) (k w b : Nat) : Prop := ∃ m : List Bool, m.length = vs.length ∧ cnt m ≤ k ∧ w ≤ wt vs m ∧ ct vs m ≤ b

theorem ok_nil {k w b} : Ok [] k w b ↔ w = 0 := by
  constructor
  · rintro ⟨m, h1, h2, h3, h4⟩
    simp at h1
    subst h1
    simpa [wt] using h3
  · rintro rfl
    exact ⟨[], rfl, by simp [cnt], by simp, by simp [ct]⟩
theorem ok_zero {v vs w b} : Ok (v :: vs) 0 w b ↔ Ok vs 0 w b := by
  constructor
  · rintro ⟨_ | ⟨a, m⟩, h1, h2, h3, h4⟩
    · simp at h1
    · simp only [cnt, wt, ct] at h2 h3 h4
      cases a
      · exact ⟨m, by simpa using h1, by simpa using h2, by simpa using h3, by simpa using h4⟩
      · simp at h2
  · rintro ⟨m, h1, h2, h3, h4⟩
    exact ⟨false :: m, by simpa using h1, by simpa [cnt] using h2, by simpa [wt] using h3, by simpa [ct] using h4⟩
theorem ok_succ {v vs k w b} : Ok (v :: vs) (k + 1) w b ↔ Ok vs (k + 1) w b ∨ (v.c ≤ b ∧ Ok vs k (w - v.w) (b - v.c)) := by
  constructor
  · rintro ⟨_ | ⟨a, m⟩, h1, h2, h3, h4⟩
    · simp at h1
    · simp only [cnt, wt, ct] at h2 h3 h4
      cases a
      · exact .inl ⟨m, by simpa using h1, by simpa using h2, by simpa using h3, by simpa using h4⟩
      · simp only [if_true] at h2 h3 h4
        exact .inr ⟨by omega, m, by simpa using h1, by omega, by omega, by omega⟩
  · rintro (⟨m, h1, h2, h3, h4⟩ | ⟨hb, m, h1, h2, h3, h4⟩)
    · exact ⟨false :: m, by simpa using h1, by simpa [cnt] using h2, by simpa [wt] using h3, by simpa [ct] using h4⟩
    · refine ⟨true :: m, by simpa using h1, ?_, ?_, ?_⟩ <;> simp only [cnt, wt, ct, if_true] <;> omega
theorem ok_mono {vs k k' w b} (h : k ≤ k') : Ok vs k w b → Ok vs k' w b :=
  fun ⟨m, h1, h2, h3, h4⟩ => ⟨m, h1, by omega, h3, h4⟩
theorem cnt_le : ∀ m : List Bool, cnt m ≤ m.length
  | [] => by simp [cnt]
  | a :: m => by
    have := cnt_le m
    simp only [cnt, List.length_cons]
    split <;> omega
theorem ok_all {vs k w b} (h : vs.length ≤ k) : Ok vs (k + 1) w b → Ok vs k w b :=
  fun ⟨m, h1, h2, h3, h4⟩ => ⟨m, h1, by have := cnt_le m; omega, h3, h4⟩

theorem min_le_or {x y b : Nat} : min x y ≤ b ↔ x ≤ b ∨ y ≤ b := by omega
theorem Lc_le_over (over : Nat) : ∀ (vs : List Vt) (k w : Nat), Lc over vs k w ≤ over
  | [], _, w => by simp only [Lc]; split <;> omega
  | _ :: vs, 0, w => by simp only [Lc]; exact Lc_le_over over vs 0 w
  | v :: vs, k + 1, w => by
    simp only [Lc]
    have := Lc_le_over over vs (k + 1) w
    omega
theorem Lc_iff {over : Nat} : ∀ (vs : List Vt) (k w b : Nat), b < over → (Lc over vs k w ≤ b ↔ Ok vs k w b)
  | [], _, w, b, hb => by
    rw [ok_nil]
    simp only [Lc]
    split <;> simp_all
  | _ :: vs, 0, w, b, hb => by
    rw [ok_zero]
    simp only [Lc]
    exact Lc_iff vs 0 w b hb
  | v :: vs, k + 1, w, b, hb => by
    rw [ok_succ, ← Lc_iff vs (k + 1) w b hb]
    simp only [Lc]
    rw [min_le_or, addU_le (Lc_le_over over vs k _) hb]
    refine or_congr Iff.rfl (and_congr_right fun hc => ?_)
    exact Lc_iff vs k (w - v.w) (b - v.c) (by omega)
theorem Lc_all (over : Nat) : ∀ (vs : List Vt) (k w : Nat), vs.length ≤ k → Lc over vs (k + 1) w = Lc over vs k w
  | [], _, w, _ => rfl
  | v :: vs, 0, w, h => by simp at h
  | v :: vs, k + 1, w, h => by
    simp only [List.length_cons, Nat.add_le_add_iff_right] at h
    simp only [Lc]
    rw [Lc_all over vs (k + 1) w (by omega), Lc_all over vs k (w - v.w) h]
/-- the row of nothing taken -/
theorem Lc_none (over : Nat) : ∀ (vs : List Vt) (w : Nat), Lc over vs 0 w = if w = 0 then 0 else over
  | [], w => rfl
  | _ :: vs, w => by simp only [Lc]; exact Lc_none over vs w

/-- the pick by the tables -/
def pickM (over : Nat) : List Vt → Nat → Nat → Nat → List Bool
  | [], _, _, _ => []
  | v :: vs, 0, w, b => false :: pickM over vs 0 w b
  | v :: vs, r + 1, w, b =>
    if v.c ≤ b ∧ Lc over vs r (w - v.w) ≤ b - v.c then true :: pickM over vs r (w - v.w) (b - v.c)
    else false :: pickM over vs (r + 1) w b

theorem pick_spec {over : Nat} : ∀ (vs : List Vt) (r w b : Nat), b < over → Ok vs r w b → (∀ k, k < r → ¬ Ok vs k w b) →
    (pickM over vs r w b).length = vs.length ∧ cnt (pickM over vs r w b) = r ∧ w ≤ wt vs (pickM over vs r w b) ∧ ct vs (pickM over vs r w b) ≤ b ∧
    ∀ m', Feas vs w b m' → cnt m' = r → val m' ≤ val (pickM over vs r w b)
  | [], r, w, b, hb, h, hn => by
    have hw := ok_nil.mp h
    subst hw
    cases r with
    | succ r => exact absurd (ok_nil.mpr rfl) (hn r (by omega))
    | zero =>
      refine ⟨rfl, rfl, by simp, by simp [ct], ?_⟩
      rintro m' ⟨f, _⟩ _
      simp at f
      subst f
      exact Nat.le_refl _
  | v :: vs, 0, w, b, hb, h, hn => by
    obtain ⟨h1, h2, h3, h4, h5⟩ := pick_spec vs 0 w b hb (ok_zero.mp h) (fun k hk => by omega)
    simp only [pickM]
    refine ⟨by simpa using h1, by simpa [cnt] using h2, by simpa [wt] using h3, by simpa [ct] using h4, ?_⟩
    rintro (_ | ⟨a, m'⟩) ⟨f1, f2, f3⟩ hc
    · simp at f1
    · simp only [cnt] at hc
      simp only [List.length_cons, Nat.add_right_cancel_iff] at f1
      cases a
      · rw [val_cons_le (by omega)]
        exact .inl ⟨rfl, h5 m' ⟨f1, by simpa [wt] using f2, by simpa [ct] using f3⟩ (by simpa using hc)⟩
      · simp at hc
  | v :: vs, r + 1, w, b, hb, h, hn => by
    simp only [pickM]
    by_cases ht : v.c ≤ b ∧ Lc over vs r (w - v.w) ≤ b - v.c
    · rw [if_pos ht]
      have ho := (Lc_iff vs r (w - v.w) (b - v.c) (Nat.lt_of_le_of_lt (Nat.sub_le _ _) hb)).mp ht.2
      obtain ⟨h1, h2, h3, h4, h5⟩ := pick_spec vs r (w - v.w) (b - v.c) (Nat.lt_of_le_of_lt (Nat.sub_le _ _) hb) ho
        (fun k hk hk' => hn (k + 1) (by omega) (ok_succ.mpr (.inr ⟨ht.1, hk'⟩)))
      have hvc := ht.1
      refine ⟨by simpa using h1, by simp only [cnt, if_true]; omega, by simp only [wt, if_true]; omega, by simp only [ct, if_true]; omega, ?_⟩
      rintro (_ | ⟨a, m'⟩) ⟨f1, f2, f3⟩ hc
      · simp at f1
      · simp only [cnt] at hc
        simp only [List.length_cons, Nat.add_right_cancel_iff] at f1
        rw [val_cons_le (by omega)]
        cases a
        · exact .inr ⟨rfl, rfl⟩
        · simp only [wt, ct, if_true] at f2 f3 hc
          exact .inl ⟨rfl, h5 m' ⟨f1, by omega, by omega⟩ (by omega)⟩
    · rw [if_neg ht]
      have ho : Ok vs (r + 1) w b := by
        rcases ok_succ.mp h with h | ⟨ha, hb'⟩
        · exact h
        · exact absurd ⟨ha, (Lc_iff vs r (w - v.w) (b - v.c) (Nat.lt_of_le_of_lt (Nat.sub_le _ _) hb)).mpr hb'⟩ ht
      obtain ⟨h1, h2, h3, h4, h5⟩ := pick_spec vs (r + 1) w b hb ho (fun k hk hk' => by
        refine hn k hk ?_
        cases k with
        | zero => exact ok_zero.mpr hk'
        | succ k => exact ok_succ.mpr (.inl hk'))
      refine ⟨by simpa using h1, by simpa [cnt] using h2, by simpa [wt] using h3, by simpa [ct] using h4, ?_⟩
      rintro (_ | ⟨a, m'⟩) ⟨f1, f2, f3⟩ hc
      · simp at f1
      · simp only [cnt] at hc
        simp only [List.length_cons, Nat.add_right_cancel_iff] at f1
        rw [val_cons_le (by omega)]
        cases a
        · exact .inl ⟨rfl, h5 m' ⟨f1, by simpa [wt] using f2, by simpa [ct] using f3⟩ (by simpa using hc)⟩
        · exfalso
          simp only [wt, ct, if_true] at f2 f3 hc
          apply ht
          refine ⟨by omega, ?_⟩
          exact (Lc_iff vs r (w - v.w) (b - v.c) (Nat.lt_of_le_of_lt (Nat.sub_le _ _) hb)).mpr ⟨m', f1, by omega, by omega, by omega⟩

/-- the pick at the least size is the first -/
theorem pick_first {over : Nat} {vs : List Vt} {r w b : Nat} (hb : b < over) (h : Lc over vs r w ≤ b) (hn : ∀ k, k < r → b < Lc over vs k w) :
    IsFirst vs w b (pickM over vs r w b) ∧ cnt (pickM over vs r w b) = r := by
  have h' := (Lc_iff vs r w b hb).mp h
  have hn' : ∀ k, k < r → ¬ Ok vs k w b := fun k hk hk' => by
    have := (Lc_iff vs k w b hb).mpr hk'
    have := hn k hk
    omega
  obtain ⟨h1, h2, h3, h4, h5⟩ := pick_spec vs r w b hb h' hn'
  refine ⟨⟨⟨h1, h3, h4⟩, fun m' f => ?_⟩, h2⟩
  rcases Nat.lt_trichotomy (cnt m') r with hc | hc | hc
  · exact absurd ⟨m', f.1, Nat.le_refl _, f.2.1, f.2.2⟩ (hn' _ hc)
  · exact .inr ⟨by omega, h5 m' f hc⟩
  · exact .inl (by omega)

/-- one feasible set: the table at all of them is within the budget -/
theorem Lc_feas {over : Nat} {vs : List Vt} {w b : Nat} (hb : b < over) (m : List Bool) (h : Feas vs w b m) : Lc over vs vs.length w ≤ b :=
  (Lc_iff vs _ w b hb).mpr ⟨m, h.1, by rw [← h.1]; exact cnt_le m, h.2.1, h.2.2⟩

/-! the row -/
def rowStep (over : Nat) (f : Nat → Nat) (v : Vt) : Nat → Nat := fun w => min (f w) (addU (f (w - v.w)) v.c over)
def row0 (over : Nat) : Nat → Nat := fun w => if w = 0 then 0 else over
theorem row_le {over : Nat} : ∀ (vs : List Vt) (m : List Bool) (f : Nat → Nat) (w b : Nat), m.length = vs.length → f (w - wt vs m) + ct vs m ≤ b → (vs.foldl (rowStep over) f) w ≤ b
  | [], [], f, w, b, _, h => by simpa [wt, ct] using h
  | [], _ :: _, _, _, _, h, _ => by simp at h
  | _ :: _, [], _, _, _, h, _ => by simp at h
  | v :: vs, a :: m, f, w, b, hl, h => by
    simp only [List.length_cons, Nat.add_right_cancel_iff] at hl
    rw [List.foldl_cons]
    refine row_le vs m _ w b hl ?_
    simp only [wt, ct] at h
    cases a
    · simp only [Bool.false_eq_true, if_false, Nat.zero_add] at h
      refine Nat.le_trans (Nat.add_le_add_right ?_ _) h
      exact Nat.min_le_left _ _
    · simp only [if_true] at h
      have e1 : rowStep over f v (w - wt vs m) ≤ f (w - wt vs m - v.w) + v.c := Nat.le_trans (Nat.min_le_right _ _) addU_le_sum
      rw [show w - wt vs m - v.w = w - (v.w + wt vs m) by omega] at e1
      omega
theorem row_feas {over : Nat} {vs : List Vt} {w b : Nat} (m : List Bool) (h : Feas vs w b m) : (vs.foldl (rowStep over) (row0 over)) w ≤ b :=
  row_le vs m _ w b h.1 (by
    have := h.2.1
    have := h.2.2
    have e : w - wt vs m = 0 := by omega
    rw [e]
    simp [row0]
    omega)
theorem row_zero {over : Nat} : ∀ (vs : List Vt) (f : Nat → Nat), f 0 = 0 → (vs.foldl (rowStep over) f) 0 = 0
  | [], f, h => h
  | v :: vs, f, h => by
    rw [List.foldl_cons]
    refine row_zero vs _ ?_
    simp [rowStep, h]
theorem row_over {over : Nat} : ∀ (vs : List Vt) (f : Nat → Nat), (∀ w, f w ≤ over) → ∀ w, (vs.foldl (rowStep over) f) w ≤ over
  | [], f, h, w => h w
  | v :: vs, f, h, w => by
    rw [List.foldl_cons]
    exact row_over vs _ (fun w => Nat.le_trans (Nat.min_le_left _ _) (h w)) w
end Go.Proofs.Qxb6608623a.Qm
