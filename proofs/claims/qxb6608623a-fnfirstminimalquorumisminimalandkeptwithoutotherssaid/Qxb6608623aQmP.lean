/- THE PLAIN PART of the first minimal quorum: selections as lists of bits, the first one, and its laws. No Go in sight. -/
import Derived.Test.Qxb6608623aTwP
namespace Go.Proofs.Qxb6608623a.Qm
set_option linter.unusedVariables false

structure Vt where
  id : ByteArray
  w : Nat
  c : Nat

def wt : List Vt → List Bool → Nat
  | v :: vs, b :: bs => (if b then v.w else 0) + wt vs bs
  | _, _ => 0
def ct : List Vt → List Bool → Nat
  | v :: vs, b :: bs => (if b then v.c else 0) + ct vs bs
  | _, _ => 0
def sel : List Vt → List Bool → List Vt
  | v :: vs, b :: bs => if b then v :: sel vs bs else sel vs bs
  | _, _ => []
def cnt : List Bool → Nat
  | [] => 0
  | b :: bs => (if b then 1 else 0) + cnt bs
def val : List Bool → Nat
  | [] => 0
  | b :: bs => (if b then 2 ^ bs.length else 0) + val bs

def Feas (vs : List Vt) (t b : Nat) (m : List Bool) : Prop := m.length = vs.length ∧ t ≤ wt vs m ∧ ct vs m ≤ b
def IsFirst (vs : List Vt) (t b : Nat) (m : List Bool) : Prop :=
  Feas vs t b m ∧ ∀ m', Feas vs t b m' → cnt m < cnt m' ∨ (cnt m = cnt m' ∧ val m' ≤ val m)

theorem val_lt : ∀ m : List Bool, val m < 2 ^ m.length
  | [] => by simp [val]
  | b :: bs => by
    have := val_lt bs
    simp only [val, List.length_cons, Nat.pow_succ]
    split <;> omega

theorem val_inj : ∀ m m' : List Bool, m.length = m'.length → val m = val m' → m = m'
  | [], [], _, _ => rfl
  | [], _ :: _, h, _ => by simp at h
  | _ :: _, [], h, _ => by simp at h
  | a :: x, b :: y, h, e => by
    simp only [List.length_cons, Nat.add_right_cancel_iff] at h
    have hx := val_lt x
    have hy := val_lt y
    simp only [val, h] at e hx
    cases a <;> cases b <;> simp only [if_true, if_false, Bool.false_eq_true] at e
    · rw [val_inj x y h (by omega)]
    · omega
    · omega
    · rw [val_inj x y h (by omega)]

theorem val_cons_le {a b : Bool} {x y : List Bool} (h : x.length = y.length) :
    val (a :: x) ≤ val (b :: y) ↔ (a = b ∧ val x ≤ val y) ∨ (a = false ∧ b = true) := by
  have hx := val_lt x
  have hy := val_lt y
  simp only [val, h] at hx ⊢
  cases a <;> cases b <;> simp <;> omega

theorem first_unique {vs t b m m'} (h : IsFirst vs t b m) (h' : IsFirst vs t b m') : m = m' := by
  obtain ⟨f, g⟩ := h
  obtain ⟨f', g'⟩ := h'
  have a := g m' f'
  have a' := g' m f
  exact val_inj _ _ (f.1.trans f'.1.symm) (by omega)

/-! dropping one of the selected -/
theorem wt_set : ∀ (vs : List Vt) (m : List Bool) (i : Nat), m[i]? = some true → wt vs (m.set i false) ≤ wt vs m
  | _, [], _, h => by simp at h
  | [], _ :: _, i, _ => by cases i <;> simp [wt]
  | v :: vs, b :: bs, 0, h => by simp [wt]
  | v :: vs, b :: bs, i + 1, h => by
    simp only [List.set_cons_succ, wt]
    have := wt_set vs bs i (by simpa using h)
    omega
theorem ct_set : ∀ (vs : List Vt) (m : List Bool) (i : Nat), ct vs (m.set i false) ≤ ct vs m
  | _, [], _ => by simp
  | [], _ :: _, i => by cases i <;> simp [ct]
  | v :: vs, b :: bs, 0 => by simp [ct]
  | v :: vs, b :: bs, i + 1 => by
    simp only [List.set_cons_succ, ct]
    have := ct_set vs bs i
    omega
theorem cnt_set : ∀ (m : List Bool) (i : Nat), m[i]? = some true → cnt (m.set i false) + 1 = cnt m
  | [], _, h => by simp at h
  | b :: bs, 0, h => by
    simp at h
    subst h
    simp [cnt]
    omega
  | b :: bs, i + 1, h => by
    simp only [List.set_cons_succ, cnt]
    have := cnt_set bs i (by simpa using h)
    omega

/-- minimal: without any one of its voters it weighs less -/
theorem first_minimal {vs t b m} (h : IsFirst vs t b m) (i : Nat) (hi : m[i]? = some true) : wt vs (m.set i false) < t := by
  obtain ⟨⟨hl, hw, hc⟩, g⟩ := h
  by_cases hn : t ≤ wt vs (m.set i false)
  · have := g (m.set i false) ⟨by simpa using hl, hn, Nat.le_trans (ct_set vs m i) hc⟩
    have := cnt_set m i hi
    omega
  · omega

/-- kept when the budget is cut to its own cost -/
theorem first_cut {vs t b m} (h : IsFirst vs t b m) : IsFirst vs t (ct vs m) m := by
  obtain ⟨⟨hl, hw, hc⟩, g⟩ := h
  exact ⟨⟨hl, hw, Nat.le_refl _⟩, fun m' f => g m' ⟨f.1, f.2.1, Nat.le_trans f.2.2 hc⟩⟩

/-! dropping one that was left out -/
def ins (m : List Bool) (d : Nat) : List Bool := m.insertIdx d false

theorem ins_zero (m : List Bool) : ins m 0 = false :: m := rfl
theorem ins_succ (a : Bool) (m : List Bool) (d : Nat) : ins (a :: m) (d + 1) = a :: ins m d := rfl

theorem ins_facts : ∀ (vs : List Vt) (d : Nat) (m : List Bool), d < vs.length → m.length + 1 = vs.length →
    (ins m d).length = vs.length ∧ wt vs (ins m d) = wt (vs.eraseIdx d) m ∧ ct vs (ins m d) = ct (vs.eraseIdx d) m ∧ cnt (ins m d) = cnt m ∧ sel vs (ins m d) = sel (vs.eraseIdx d) m ∧ (ins m d)[d]? = some false ∧ (ins m d).eraseIdx d = m
  | [], _, _, h, _ => by simp at h
  | v :: vs, 0, m, _, hl => by
    simp only [ins_zero, List.length_cons, wt, ct, cnt, sel, List.eraseIdx_cons_zero] at hl ⊢
    simp
    omega
  | v :: vs, d + 1, [], h, hl => by
    simp at h hl
    subst hl
    simp at h
  | v :: vs, d + 1, a :: m, h, hl => by
    simp only [List.length_cons, Nat.add_lt_add_iff_right, Nat.add_right_cancel_iff] at h hl
    obtain ⟨h1, h2, h3, h4, h5, h6, h7⟩ := ins_facts vs d m h hl
    simp only [ins_succ, List.length_cons, wt, ct, cnt, sel, List.eraseIdx_cons_succ, h1, h2, h3, h4, h5, List.getElem?_cons_succ, h6, h7, and_self]

theorem ins_erase : ∀ (m : List Bool) (d : Nat), m[d]? = some false → ins (m.eraseIdx d) d = m
  | [], _, h => by simp at h
  | a :: m, 0, h => by
    simp at h
    subst h
    rfl
  | a :: m, d + 1, h => by
    rw [List.eraseIdx_cons_succ, ins_succ, ins_erase m d (by simpa using h)]

theorem ins_val : ∀ (d : Nat) (x y : List Bool), x.length = y.length → d ≤ x.length → val (ins x d) ≤ val (ins y d) → val x ≤ val y
  | 0, x, y, hl, _, h => by
    rw [ins_zero, ins_zero, val_cons_le hl] at h
    rcases h with ⟨_, h⟩ | ⟨_, h⟩
    · exact h
    · cases h
  | d + 1, [], _, _, h, _ => by simp at h
  | d + 1, _ :: _, [], h, _, _ => by simp at h
  | d + 1, a :: x, b :: y, hl, hd, h => by
    simp only [List.length_cons, Nat.add_right_cancel_iff, Nat.add_le_add_iff_right] at hl hd
    have e : (ins x d).length = (ins y d).length := by
      unfold ins
      rw [List.length_insertIdx, List.length_insertIdx, hl]
    rw [ins_succ, ins_succ, val_cons_le e] at h
    rw [val_cons_le hl]
    rcases h with ⟨h1, h⟩ | h
    · exact .inl ⟨h1, ins_val d x y hl hd h⟩
    · exact .inr h

/-- kept when a voter that it leaves out is removed -/
theorem first_drop {vs t b m} (h : IsFirst vs t b m) (d : Nat) (hd : m[d]? = some false) :
    IsFirst (vs.eraseIdx d) t b (m.eraseIdx d) ∧ sel (vs.eraseIdx d) (m.eraseIdx d) = sel vs m := by
  obtain ⟨⟨hl, hw, hc⟩, g⟩ := h
  have hdl : d < m.length := by
    rcases Nat.lt_or_ge d m.length with h | h
    · exact h
    · rw [List.getElem?_eq_none h] at hd; cases hd
  have hel : (m.eraseIdx d).length + 1 = vs.length := by
    rw [List.length_eraseIdx, if_pos hdl]; omega
  have hev : (vs.eraseIdx d).length + 1 = vs.length := by
    rw [List.length_eraseIdx, if_pos (by omega)]; omega
  obtain ⟨a1, a2, a3, a4, a5, _, _⟩ := ins_facts vs d (m.eraseIdx d) (by omega) hel
  rw [ins_erase m d hd] at a1 a2 a3 a4 a5
  refine ⟨⟨⟨by omega, by omega, by omega⟩, ?_⟩, a5.symm⟩
  intro m' f
  have hm' : m'.length + 1 = vs.length := by rw [f.1]; exact hev
  obtain ⟨b1, b2, b3, b4, b5, _, _⟩ := ins_facts vs d m' (by omega) hm'
  have := g (ins m' d) ⟨b1, by rw [b2]; exact f.2.1, by rw [b3]; exact f.2.2⟩
  rw [b4] at this
  rw [← a4]
  rcases this with h | ⟨h1, h2⟩
  · exact .inl h
  · refine .inr ⟨h1, ?_⟩
    have := ins_val d m' (m.eraseIdx d) (by omega) (by omega)
    rw [ins_erase m d hd] at this
    exact this h2

/-! the voters of weight 0 play no part -/
def pos (v : Vt) : Bool := 0 < v.w
def expd : List Vt → List Bool → List Bool
  | [], _ => []
  | v :: vs, m => if 0 < v.w then m.headD false :: expd vs m.tail else false :: expd vs m
def res : List Vt → List Bool → List Bool
  | v :: vs, b :: bs => if 0 < v.w then b :: res vs bs else res vs bs
  | _, _ => []

theorem expd_facts : ∀ (vs : List Vt) (m : List Bool), m.length = (vs.filter pos).length →
    (expd vs m).length = vs.length ∧ wt vs (expd vs m) = wt (vs.filter pos) m ∧ ct vs (expd vs m) = ct (vs.filter pos) m ∧ cnt (expd vs m) = cnt m ∧ sel vs (expd vs m) = sel (vs.filter pos) m
  | [], m, h => by
    simp at h
    subst h
    simp [expd, wt, ct, cnt, sel]
  | v :: vs, m, h => by
    by_cases hv : 0 < v.w
    · have hp : pos v = true := by simp [pos, hv]
      rw [List.filter_cons_of_pos hp] at h ⊢
      cases m with
      | nil => simp at h
      | cons a m =>
        simp only [List.length_cons, Nat.add_right_cancel_iff] at h
        obtain ⟨h1, h2, h3, h4, h5⟩ := expd_facts vs m h
        simp only [expd, if_pos hv, List.headD_cons, List.tail_cons, List.length_cons, wt, ct, cnt, sel, h1, h2, h3, h4, h5, and_self]
    · have hp : ¬ pos v = true := by simp [pos, hv]
      rw [List.filter_cons_of_neg hp] at h ⊢
      obtain ⟨h1, h2, h3, h4, h5⟩ := expd_facts vs m h
      simp only [expd, if_neg hv, List.length_cons, wt, ct, cnt, sel, h1, h2, h3, h4, h5, and_self, Bool.false_eq_true, if_false, Nat.zero_add]

theorem res_facts : ∀ (vs : List Vt) (m : List Bool), m.length = vs.length →
    (res vs m).length = (vs.filter pos).length ∧ wt (vs.filter pos) (res vs m) = wt vs m ∧ ct (vs.filter pos) (res vs m) ≤ ct vs m ∧ cnt (res vs m) ≤ cnt m ∧ (cnt (res vs m) = cnt m → expd vs (res vs m) = m)
  | [], [], _ => by simp [res, expd, wt, ct, cnt]
  | [], _ :: _, h => by simp at h
  | _ :: _, [], h => by simp at h
  | v :: vs, a :: m, h => by
    simp only [List.length_cons, Nat.add_right_cancel_iff] at h
    obtain ⟨h1, h2, h3, h4, h5⟩ := res_facts vs m h
    by_cases hv : 0 < v.w
    · have hp : pos v = true := by simp [pos, hv]
      rw [List.filter_cons_of_pos hp]
      simp only [res, if_pos hv, List.length_cons, wt, ct, cnt, expd, List.headD_cons, List.tail_cons, h1, h2, true_and]
      refine ⟨by omega, by omega, fun e => ?_⟩
      rw [h5 (by omega)]
    · have hp : ¬ pos v = true := by simp [pos, hv]
      rw [List.filter_cons_of_neg hp]
      have hv0 : v.w = 0 := by omega
      simp only [res, if_neg hv, wt, ct, cnt, expd, h1, h2, true_and]
      refine ⟨by simp [hv0], by omega, by omega, fun e => ?_⟩
      have hc : a = false := by
        cases a
        · rfl
        · simp at e; omega
      subst hc
      simp only [Bool.false_eq_true, if_false, Nat.zero_add] at e
      rw [h5 e]

theorem expd_val : ∀ (vs : List Vt) (x y : List Bool), x.length = (vs.filter pos).length → y.length = x.length → val x ≤ val y → val (expd vs x) ≤ val (expd vs y)
  | [], x, y, _, _, _ => by simp [expd, val]
  | v :: vs, x, y, hx, hy, h => by
    by_cases hv : 0 < v.w
    · have hp : pos v = true := by simp [pos, hv]
      rw [List.filter_cons_of_pos hp] at hx
      cases x with
      | nil => simp at hx
      | cons a x =>
        cases y with
        | nil => simp at hy
        | cons b y =>
          simp only [List.length_cons, Nat.add_right_cancel_iff] at hx hy
          rw [val_cons_le hy.symm] at h
          simp only [expd, if_pos hv, List.headD_cons, List.tail_cons]
          rw [val_cons_le (by rw [(expd_facts vs x hx).1, (expd_facts vs y (by omega)).1])]
          rcases h with ⟨h1, h⟩ | h
          · exact .inl ⟨h1, expd_val vs x y hx hy h⟩
          · exact .inr h
    · have hp : ¬ pos v = true := by simp [pos, hv]
      rw [List.filter_cons_of_neg hp] at hx
      simp only [expd, if_neg hv]
      rw [val_cons_le (by rw [(expd_facts vs x hx).1, (expd_facts vs y (by omega)).1])]
      exact .inl ⟨rfl, expd_val vs x y hx hy h⟩

/-- the first among the voters that weigh something is the first among all -/
theorem first_filter {vs t b m} (h : IsFirst (vs.filter pos) t b m) :
    IsFirst vs t b (expd vs m) ∧ sel vs (expd vs m) = sel (vs.filter pos) m := by
  obtain ⟨⟨hl, hw, hc⟩, g⟩ := h
  obtain ⟨h1, h2, h3, h4, h5⟩ := expd_facts vs m hl
  refine ⟨⟨⟨h1, by omega, by omega⟩, ?_⟩, h5⟩
  intro m' f
  obtain ⟨r1, r2, r3, r4, r5⟩ := res_facts vs m' f.1
  have := g (res vs m') ⟨r1, by rw [r2]; exact f.2.1, Nat.le_trans r3 f.2.2⟩
  rw [h4]
  by_cases e : cnt (res vs m') = cnt m'
  · rcases this with h | ⟨ha, hb⟩
    · exact .inl (by omega)
    · refine .inr ⟨by omega, ?_⟩
      have := expd_val vs (res vs m') m r1 (by omega) hb
      rwa [r5 e] at this
  · exact .inl (by omega)

/-- all of them are feasible when together they are; so are those that weigh something -/
theorem all_feas {vs t b} {m : List Bool} (h : Feas vs t b m) : Feas (vs.filter pos) t b (res vs m) := by
  obtain ⟨r1, r2, r3, _, _⟩ := res_facts vs m h.1
  exact ⟨r1, by rw [r2]; exact h.2.1, Nat.le_trans r3 h.2.2⟩

theorem sel_length : ∀ (vs : List Vt) (m : List Bool), m.length = vs.length → (sel vs m).length = cnt m
  | [], [], _ => rfl
  | [], _ :: _, h => by simp at h
  | _ :: _, [], h => by simp at h
  | v :: vs, a :: m, h => by
    simp only [List.length_cons, Nat.add_right_cancel_iff] at h
    have := sel_length vs m h
    cases a <;> simp [sel, cnt, this] <;> omega

end Go.Proofs.Qxb6608623a.Qm
