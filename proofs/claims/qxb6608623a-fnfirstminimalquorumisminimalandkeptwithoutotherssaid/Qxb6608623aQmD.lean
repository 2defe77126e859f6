/- THE PLAIN PART of the pick by the tables, step by step. No Go in sight. -/
import Derived.Test.Qxb6608623aQmH
namespace Go.Proofs.Qxb6608623a.Qm
set_option linter.unusedVariables false

theorem ok_room {us : List Vt} {r w b : Nat} (h : Ok us r w b) (hn : ∀ k, k < r → ¬ Ok us k w b) : r ≤ us.length := by
  rcases Nat.lt_or_ge us.length r with hlt | hge
  · obtain ⟨m, h1, h2, h3, h4⟩ := h
    exact absurd ⟨m, h1, by rw [← h1]; exact cnt_le m, h3, h4⟩ (hn us.length hlt)
  · exact hge
theorem ok_take {over : Nat} {v : Vt} {rest : List Vt} {r w b : Nat} (hb : b < over) (hn : ∀ k, k < r + 1 → ¬ Ok (v :: rest) k w b) (hc : v.c ≤ b) (hl : Lc over rest r (w - v.w) ≤ b - v.c) :
    Ok rest r (w - v.w) (b - v.c) ∧ ∀ k, k < r → ¬ Ok rest k (w - v.w) (b - v.c) :=
  ⟨(Lc_iff rest r _ _ (by omega)).mp hl, fun k hk hk' => hn (k + 1) (by omega) (ok_succ.mpr (.inr ⟨hc, hk'⟩))⟩
theorem ok_skip {over : Nat} {v : Vt} {rest : List Vt} {r w b : Nat} (hb : b < over) (h : Ok (v :: rest) (r + 1) w b) (hn : ∀ k, k < r + 1 → ¬ Ok (v :: rest) k w b) (hno : ¬ (v.c ≤ b ∧ Lc over rest r (w - v.w) ≤ b - v.c)) :
    Ok rest (r + 1) w b ∧ ∀ k, k < r + 1 → ¬ Ok rest k w b := by
  refine ⟨?_, fun k hk hk' => hn k hk ?_⟩
  · rcases ok_succ.mp h with h | ⟨ha, hb'⟩
    · exact h
    · exact absurd ⟨ha, (Lc_iff rest r _ _ (by omega)).mpr hb'⟩ hno
  · cases k with
    | zero => exact ok_zero.mpr hk'
    | succ k => exact ok_succ.mpr (.inl hk')
theorem sel_pick0 (over : Nat) : ∀ (us : List Vt) (w b : Nat), sel us (pickM over us 0 w b) = []
  | [], w, b => rfl
  | v :: us, w, b => by simp only [pickM, sel, Bool.false_eq_true, if_false]; exact sel_pick0 over us w b

/-- how far the pick has come: i voters seen, m of them taken, r still to be taken -/
structure Pk (over : Nat) (vs : List Vt) (size thr bud i r wd lf : Nat) (m : List Bool) : Prop where
  len : m.length = i
  le : i ≤ vs.length
  sum : cnt m + r = size
  hw : wd ≤ thr
  hl : lf ≤ bud
  pick : pickM over vs size thr bud = m ++ pickM over (vs.drop i) r wd lf
  ok : Ok (vs.drop i) r wd lf
  no : ∀ k, k < r → ¬ Ok (vs.drop i) k wd lf

theorem Pk.start {over : Nat} {vs : List Vt} {size thr bud : Nat} (hb : bud < over) (h : Lc over vs size thr ≤ bud) (hn : ∀ k, k < size → bud < Lc over vs k thr) : Pk over vs size thr bud 0 size thr bud [] :=
  ⟨rfl, Nat.zero_le _, by simp [cnt], Nat.le_refl _, Nat.le_refl _, rfl, (Lc_iff vs size thr bud hb).mp h, fun k hk hk' => by
    have := (Lc_iff vs k thr bud hb).mpr hk'
    have := hn k hk
    omega⟩
theorem Pk.room {over : Nat} {vs : List Vt} {size thr bud i r wd lf : Nat} {m : List Bool} (h : Pk over vs size thr bud i r wd lf m) : r ≤ vs.length - i := by
  have := ok_room h.ok h.no
  rwa [List.length_drop] at this
theorem drop_at {vs : List Vt} {i : Nat} {v : Vt} (hv : vs[i]? = some v) : vs.drop i = v :: vs.drop (i + 1) := by
  obtain ⟨h, rfl⟩ := List.getElem?_eq_some_iff.1 hv
  exact List.drop_eq_getElem_cons h
theorem Pk.take {over : Nat} {vs : List Vt} {size thr bud i r wd lf : Nat} {m : List Bool} (h : Pk over vs size thr bud i (r + 1) wd lf m) (hb : bud < over) {v : Vt} (hv : vs[i]? = some v) (hc : v.c ≤ lf) (hl : Lc over (vs.drop (i + 1)) r (wd - v.w) ≤ lf - v.c) :
    Pk over vs size thr bud (i + 1) r (wd - v.w) (lf - v.c) (m ++ [true]) := by
  have e := drop_at hv
  have hi := (List.getElem?_eq_some_iff.1 hv).1
  have hlf := h.hl
  have hwd := h.hw
  have hs := h.sum
  obtain ⟨o1, o2⟩ := ok_take (by omega) (by have := h.no; rwa [e] at this) hc hl
  refine ⟨by simp [h.len], by omega, by rw [cnt_append]; simp [cnt]; omega, by omega, by omega, ?_, o1, o2⟩
  rw [h.pick, e]
  simp only [pickM]
  rw [if_pos ⟨hc, hl⟩]
  simp
theorem Pk.skip {over : Nat} {vs : List Vt} {size thr bud i r wd lf : Nat} {m : List Bool} (h : Pk over vs size thr bud i (r + 1) wd lf m) (hb : bud < over) {v : Vt} (hv : vs[i]? = some v) (hno : ¬ (v.c ≤ lf ∧ Lc over (vs.drop (i + 1)) r (wd - v.w) ≤ lf - v.c)) :
    Pk over vs size thr bud (i + 1) (r + 1) wd lf (m ++ [false]) := by
  have e := drop_at hv
  have hi := (List.getElem?_eq_some_iff.1 hv).1
  have hlf := h.hl
  have hs := h.sum
  obtain ⟨o1, o2⟩ := ok_skip (by omega) (by have := h.ok; rwa [e] at this) (by have := h.no; rwa [e] at this) hno
  refine ⟨by simp [h.len], by omega, by rw [cnt_append]; simp [cnt]; omega, h.hw, h.hl, ?_, o1, o2⟩
  rw [h.pick, e]
  simp only [pickM]
  rw [if_neg hno]
  simp
theorem Pk.done {over : Nat} {vs : List Vt} {size thr bud i wd lf : Nat} {m : List Bool} (h : Pk over vs size thr bud i 0 wd lf m) : sel vs (pickM over vs size thr bud) = sel (vs.take i) m := by
  rw [h.pick]
  conv => lhs; arg 1; rw [← List.take_append_drop i vs]
  rw [sel_append _ _ _ _ (by rw [List.length_take, h.len]; have := h.le; omega), sel_pick0, List.append_nil]
theorem sel_true {vs : List Vt} {i : Nat} {m : List Bool} {v : Vt} (hm : m.length = i) (hv : vs[i]? = some v) : sel (vs.take (i + 1)) (m ++ [true]) = sel (vs.take i) m ++ [v] := by
  have hi := (List.getElem?_eq_some_iff.1 hv).1
  rw [List.take_add_one, hv, sel_append _ _ _ _ (by rw [List.length_take, hm]; omega)]
  simp [sel]
theorem sel_false {vs : List Vt} {i : Nat} {m : List Bool} {v : Vt} (hm : m.length = i) (hv : vs[i]? = some v) : sel (vs.take (i + 1)) (m ++ [false]) = sel (vs.take i) m := by
  have hi := (List.getElem?_eq_some_iff.1 hv).1
  rw [List.take_add_one, hv, sel_append _ _ _ _ (by rw [List.length_take, hm]; omega)]
  simp [sel]
theorem Pk.count {over : Nat} {vs : List Vt} {size thr bud i r wd lf : Nat} {m : List Bool} (h : Pk over vs size thr bud i r wd lf m) : (sel (vs.take i) m).length + r = size := by
  rw [sel_length _ _ (by rw [List.length_take, h.len]; have := h.le; omega)]
  exact h.sum
end Go.Proofs.Qxb6608623a.Qm
