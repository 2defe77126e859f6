/- WHAT LIES IN MEMORY: the lists of subsets. No walk here. -/
import Derived.Test.Qxb6608623aQmC
import Derived.Test.Qxb6608623aQmD
namespace Go.Proofs.Qxb6608623a.qmM
open Go.RowKit
open Go.Proofs.Qxb6608623a.Qm
open Go.Proofs.Qxb6608623a.qmW
open Go.Proofs.Qxb6608623a.qmS
open Go.Proofs.Qxb6608623a.qmI
open Go.Proofs.Qxb6608623a.qmR
open Go.Proofs.Qxb6608623a.qmL
set_option linter.unusedVariables false

def sbCells (T : List Sb) : List Value := T.flatMap fun s => [.int .u64 (s.m : Nat), .int .u64 (s.w : Nat), .int .u64 (s.c : Nat)]
theorem sbCells_length : ∀ T : List Sb, (sbCells T).length = T.length * 3
  | [] => rfl
  | s :: T => by
    have := sbCells_length T
    simp only [sbCells, List.flatMap_cons, List.length_append, List.length_cons, List.length_nil] at this ⊢
    omega
theorem sbCells_append (T U : List Sb) : sbCells (T ++ U) = sbCells T ++ sbCells U := by simp [sbCells]
theorem sbCells_get : ∀ (T : List Sb) (i : Nat) (s : Sb), T[i]? = some s → (sbCells T)[i * 3]? = some (.int .u64 (s.m : Nat)) ∧ (sbCells T)[i * 3 + 1]? = some (.int .u64 (s.w : Nat)) ∧ (sbCells T)[i * 3 + 2]? = some (.int .u64 (s.c : Nat))
  | [], i, s, h => by simp at h
  | t :: T, 0, s, h => by
    simp at h
    subst h
    simp [sbCells]
  | t :: T, i + 1, s, h => by
    have := sbCells_get T i s (by simpa using h)
    have e : sbCells (t :: T) = .int .u64 (t.m : Nat) :: .int .u64 (t.w : Nat) :: .int .u64 (t.c : Nat) :: sbCells T := rfl
    rw [e, show (i + 1) * 3 = i * 3 + 1 + 1 + 1 by omega]
    simpa using this

/-- the block g holds the subsets T -/
def RowSb (w : World) (g : Nat) (T : List Sb) : Prop := ∃ cur : Array Value, w.heap[g]? = some (.cells cur 101 (0, 0)) ∧ ∀ i s, T[i]? = some s → cur[i * 3]? = some (.int .u64 (s.m : Nat)) ∧ cur[i * 3 + 1]? = some (.int .u64 (s.w : Nat)) ∧ cur[i * 3 + 2]? = some (.int .u64 (s.c : Nat))
theorem RowSb.at_ {w : World} {g : Nat} {T : List Sb} (h : RowSb w g T) : ∀ i s, T[i]? = some s → SbAt w g 0 i s := by
  intro i s hi
  obtain ⟨cur, hg, hc⟩ := h
  obtain ⟨h1, h2, h3⟩ := hc i s hi
  unfold SbAt
  simp only [World.cell?, hg, Nat.zero_add]
  simp [h1, h2, h3]
theorem RowSb.congr {w w' : World} {g : Nat} {T : List Sb} (h : RowSb w g T) (e : w'.heap[g]? = w.heap[g]?) : RowSb w' g T := by
  obtain ⟨cur, hg, hc⟩ := h
  exact ⟨cur, by rw [e]; exact hg, hc⟩
theorem RowSb.lt {w : World} {g : Nat} {T : List Sb} (h : RowSb w g T) : g < w.heap.size := by
  obtain ⟨cur, hg, hc⟩ := h
  exact lt_of_some hg
theorem RowSb.below {w w' : World} {g : Nat} {T : List Sb} (h : RowSb w g T) (hb : Below w.heap.size w w') : RowSb w' g T := h.congr (hb.block _ h.lt)
theorem RowSb.apart {w : World} {g b : Nat} {T : List Sb} {L : Array Value} {t : TypeId} (h : RowSb w g T) (hb : w.heap[b]? = some (.cells L t (0, 0))) (ht : t ≠ 101) : g ≠ b := by
  intro e
  subst e
  obtain ⟨cur, hg, hc⟩ := h
  rw [hg] at hb
  simp only [Option.some.injEq, Obj.cells.injEq] at hb
  exact ht hb.2.1.symm
theorem RowSb.of_own {w : World} {B g cp : Nat} {T : List Sb} (h : w.ownsRow B 101 3 (.slice (some ⟨g, 0, none⟩) T.length cp) T.length (sbCells T)) : RowSb w g T ∧ T.length ≤ cp := by
  rcases h.2 with ⟨h, _⟩ | ⟨g', cap, cur, h, _, hh, hle, _, hsz, ht⟩
  · simp at h
  · simp only [Value.slice.injEq, Option.some.injEq, Addr.mk.injEq] at h
    obtain ⟨⟨rfl, _⟩, _, rfl⟩ := h
    refine ⟨⟨cur, hh, fun i s hi => ?_⟩, hle⟩
    have hi' := (List.getElem?_eq_some_iff.1 hi).1
    have := sbCells_get T i s hi
    rw [← ht] at this
    rw [List.getElem?_take_of_lt (by omega), List.getElem?_take_of_lt (by omega), List.getElem?_take_of_lt (by omega)] at this
    simpa using this

/-- a slice of subsets, wherever it begins -/
def SlR (w : World) (x : Value) (X : List Sb) : Prop := ∃ ao cp, x = .slice ao X.length cp ∧ (X ≠ [] → ∃ g o, ao = some ⟨g, o, none⟩ ∧ g < w.heap.size ∧ X.length ≤ cp ∧ ∀ i s, X[i]? = some s → SbAt w g o i s)
theorem SlR.nil (w : World) : SlR w (.slice none 0 0) [] := ⟨none, 0, rfl, fun h => absurd rfl h⟩
theorem SlR.row {w : World} {g cp : Nat} {T : List Sb} (h : RowSb w g T) (hc : T.length ≤ cp) : SlR w (.slice (some ⟨g, 0, none⟩) T.length cp) T := ⟨_, _, rfl, fun _ => ⟨g, 0, rfl, h.lt, hc, h.at_⟩⟩
theorem SlR.cons {w : World} {x : Value} {s : Sb} {X : List Sb} (h : SlR w x (s :: X)) : ∃ g o cp, x = .slice (some ⟨g, o, none⟩) (X.length + 1) cp ∧ g < w.heap.size ∧ X.length + 1 ≤ cp ∧ w.cell? ⟨g, o, none⟩ = some (.int .u64 (s.m : Nat)) ∧ w.cell? ⟨g, o + 1, none⟩ = some (.int .u64 (s.w : Nat)) ∧ w.cell? ⟨g, o + 2, none⟩ = some (.int .u64 (s.c : Nat)) ∧ SlR w (.slice (some ⟨g, o + 3, none⟩) X.length (cp - 1)) X := by
  obtain ⟨ao, cp, rfl, h⟩ := h
  obtain ⟨g, o, rfl, hg, hc, ha⟩ := h (by simp)
  have h0 := ha 0 s rfl
  unfold SbAt at h0
  simp only [Nat.zero_mul, Nat.add_zero] at h0
  refine ⟨g, o, cp, rfl, hg, by simpa using hc, h0.1, h0.2.1, h0.2.2, _, _, rfl, fun _ => ⟨g, o + 3, rfl, hg, by simp at hc; omega, fun i t hi => ?_⟩⟩
  have := ha (i + 1) t (by simpa using hi)
  unfold SbAt at this ⊢
  rw [show o + (i + 1) * 3 = o + 3 + i * 3 by omega] at this
  exact this
theorem SlR.empty {w : World} {x : Value} (h : SlR w x []) : ∃ ao cp, x = .slice ao 0 cp := by
  obtain ⟨ao, cp, rfl, h⟩ := h
  exact ⟨_, _, rfl⟩
theorem SlR.below {w w' : World} {x : Value} {X : List Sb} (h : SlR w x X) (hb : Below w.heap.size w w') : SlR w' x X := by
  obtain ⟨ao, cp, rfl, h⟩ := h
  refine ⟨_, _, rfl, fun hne => ?_⟩
  obtain ⟨g, o, rfl, hg, hc, ha⟩ := h hne
  exact ⟨g, o, rfl, Nat.lt_of_lt_of_le hg hb.size, hc, fun i s hi => (ha i s hi).below hb hg⟩
def slen : Value → Nat
  | .slice _ n _ => n
  | _ => 0
theorem SlR.slen {w : World} {x : Value} {X : List Sb} (h : SlR w x X) : slen x = X.length := by
  obtain ⟨ao, cp, rfl, h⟩ := h
  rfl

/-- the lists by size: Lb holds m slices, the first of which are S -/
structure BySz (w : World) (Lb : Nat) (L : List Value) (m : Nat) (S : List (List Sb)) : Prop where
  cells : CellsAre w Lb L 99
  len : L.length = m
  at_ : ∀ (k : Nat) (T : List Sb), S[k]? = some T → ∃ g cp, L[k]? = some (.slice (some ⟨g, 0, none⟩) T.length cp) ∧ T.length ≤ cp ∧ RowSb w g T
theorem BySz.below {w w' : World} {Lb m : Nat} {L : List Value} {S : List (List Sb)} (h : BySz w Lb L m S) (hb : Below w.heap.size w w') : BySz w' Lb L m S :=
  ⟨h.cells.congr (hb.block _ (lt_of_some h.cells)), h.len, fun k T hk => by
    obtain ⟨g, cp, h1, h2, h3⟩ := h.at_ k T hk
    exact ⟨g, cp, h1, h2, h3.below hb⟩⟩
/-- a block of another type is written -/
theorem BySz.far {w : World} {Lb m b q : Nat} {L : List Value} {S : List (List Sb)} {A : Array Value} {t : TypeId} (h : BySz w Lb L m S) (hb : w.heap[b]? = some (.cells A t (0, 0))) (h1 : t ≠ 101) (h2 : b ≠ Lb) (v : Value) : BySz (w.setCell ⟨b, q, none⟩ v) Lb L m S :=
  ⟨h.cells.congr (Below.heap_setCell _ _ _ _ (Ne.symm h2)), h.len, fun k T hk => by
    obtain ⟨g, cp, e1, e2, e3⟩ := h.at_ k T hk
    exact ⟨g, cp, e1, e2, e3.congr (Below.heap_setCell _ _ _ _ (e3.apart hb h1))⟩⟩
/-- one list more -/
theorem BySz.push {w : World} {Lb m g cp : Nat} {L : List Value} {S : List (List Sb)} {T : List Sb} (h : BySz w Lb L m S) (hk : S.length < m) (hr : RowSb w g T) (hc : T.length ≤ cp) :
    BySz (w.setCell ⟨Lb, S.length, none⟩ (.slice (some ⟨g, 0, none⟩) T.length cp)) Lb (L.set S.length (.slice (some ⟨g, 0, none⟩) T.length cp)) m (S ++ [T]) := by
  refine ⟨h.cells.set _ _, by simpa using h.len, fun k U hU => ?_⟩
  rcases Nat.lt_trichotomy k S.length with hlt | rfl | hgt
  · rw [List.getElem?_append_left hlt] at hU
    obtain ⟨g', cp', e1, e2, e3⟩ := h.at_ k U hU
    exact ⟨g', cp', by rw [List.getElem?_set_ne (by omega)]; exact e1, e2, e3.congr (Below.heap_setCell _ _ _ _ (e3.apart h.cells (by decide)))⟩
  · simp at hU
    subst hU
    exact ⟨g, cp, List.getElem?_set_self (by rw [h.len]; exact hk), hc, hr.congr (Below.heap_setCell _ _ _ _ (hr.apart h.cells (by decide)))⟩
  · rw [List.getElem?_eq_none (by simp; omega)] at hU
    simp at hU
theorem BySz.drew {w : World} {Lb m : Nat} {L : List Value} {S : List (List Sb)} (h : BySz w Lb L m S) : BySz w.drew Lb L m S := ⟨h.cells, h.len, h.at_⟩

/-- is the next of the merge the one without? -/
def takeX (f : Sb → Sb) : List Sb → List Sb → Bool
  | _, [] => true
  | [], _ :: _ => false
  | s :: _, t :: _ => decide (s.c ≤ (f t).c)
theorem mrg_X {f : Sb → Sb} {s : Sb} {X Y : List Sb} (h : takeX f (s :: X) Y = true) : mrg (s :: X) (Y.map f) = s :: mrg X (Y.map f) := by
  cases Y with
  | nil => simp [mrg_nil]
  | cons t Y =>
    simp only [takeX, decide_eq_true_eq] at h
    simp only [List.map_cons]
    conv => lhs; unfold mrg
    rw [if_pos h]
theorem mrg_Y {f : Sb → Sb} {t : Sb} {X Y : List Sb} (h : takeX f X (t :: Y) = false) : mrg X ((t :: Y).map f) = f t :: mrg X (Y.map f) := by
  cases X with
  | nil => simp [mrg]
  | cons s X =>
    simp only [takeX, decide_eq_false_iff_not] at h
    simp only [List.map_cons]
    conv => lhs; unfold mrg
    rw [if_neg h]
end Go.Proofs.Qxb6608623a.qmM
